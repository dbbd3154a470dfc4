/- minify.Number: an exponent is written. Conditions: none. -/
import Derived.Test.YtblphppdfiipfaaDoorCMinB
namespace Go.Proofs.YtblphppdfiipfaaDoor
open Go.RowKit
set_option maxRecDepth 100000

theorem room1 {c d : Nat → Nat} {N q k st e n x : Nat} {ex nx E : Int} (hI : In9 c N q k ex) (hK : KE c q k st e n nx d) (hE : E = nx + ex) (hx : E = n + x) :
    x < 100000 ∧ (n + 3 ≤ E → e + 1 + dl x ≤ N) ∧ (E ≤ n + 2 → e + x ≤ N) ∧ n ≤ e ∧ e ≤ N ∧ n ≤ 100 ∧ 1 ≤ n := by
  have hr := hI.room
  have h1 := hI.qN
  have h2 := hI.kq
  have h3 := hI.n100
  have hb : -200 ≤ nx ∧ nx ≤ 100 ∧ n ≤ e ∧ e ≤ N ∧ 1 ≤ n := by
    rcases hK with ⟨m, a1, a2, a3, a4, _⟩ | ⟨a1, a2, a3, a4, _⟩ | ⟨a1, a2, a3, a4, _⟩
    · have := a2.hm; have := a2.he; have := a2.hq; omega
    · have := a2.hn; have := a2.h1; omega
    · have := a2.h1; have := a2.he; have := a2.hq; omega
  have hx5 : x < 100000 := by rcases hr with h | h | h <;> omega
  refine ⟨hx5, fun h => ?_, fun h => ?_, hb.2.2.1, hb.2.2.2.1, by omega, hb.2.2.2.2⟩
  · have hdx := dl_cases x hx5
    have hde := dl_cases ex.natAbs (by rcases hr with h | h | h <;> omega)
    rcases hK with ⟨m, a1, a2, a3, a4, _⟩ | ⟨a1, a2, a3, a4, _⟩ | ⟨a1, a2, a3, a4, _⟩
    · have := a2.hm; have := a2.he; have := a2.hq
      rcases hr with h | h | h
      · omega
      · omega
      · omega
    · have := a2.hn; have := a2.h1
      rcases hr with h | h | h
      · omega
      · omega
      · omega
    · have := a2.h1; have := a2.he; have := a2.hq
      rcases hr with h | h | h
      · omega
      · omega
      · omega
  · have hde := dl_cases ex.natAbs (by rcases hr with h | h | h <;> omega)
    rcases hK with ⟨m, a1, a2, a3, a4, _⟩ | ⟨a1, a2, a3, a4, _⟩ | ⟨a1, a2, a3, a4, _⟩
    · have := a2.hm; have := a2.he; have := a2.hq
      rcases hr with h | h | h
      · omega
      · omega
      · omega
    · have := a2.hn; have := a2.h1
      rcases hr with h | h | h
      · omega
      · omega
      · omega
    · have := a2.h1; have := a2.he; have := a2.hq
      rcases hr with h | h | h
      · omega
      · omega
      · omega

set_option maxHeartbeats 4000000 in
theorem n9_c1 (g N cap q k st e n lE : Nat) (c d : Nat → Nat) (ex nx E : Int) (w : World) (K : Act → World → Prop) (Q : Exit → Act → World → Prop) (a : Act)
    (ha : (F9m g N cap st k e ex n E (E - n) (lenI (E - n)) lE fun k => a.tmps.getD k undef) = a) (hI : In9 c N q k ex) (hB : Blk w g N c) (hc : N ≤ cap) (hKE : KE c q k st e n nx d) (hE : E = nx + ex) (hnE : n ≤ E)
    (hfin : ∀ (S e' : Nat) (c' : Nat → Nat) (a : Act) (w' : World), Blk w' g N c' → w.grownBy w' (some g) → S < e' → e' ≤ N → Res (fun j => c' (S + j)) (e' - S) n d E → (F9z g N cap S e' fun k => a.tmps.getD k undef) = a → K a w') :
    Code.wp Tryd.prog (c9 [false, true, false]) (Exit.then K Q) a w := by
  obtain ⟨x, hx⟩ : ∃ x : Nat, E = n + x := ⟨(E - n).toNat, by omega⟩
  have hEn : E - n = (x : Int) := by omega
  have hlen : lenI (x : Int) = dl x := by unfold lenI; rw [if_neg (by omega)]; congr 1
  rw [hEn, hlen] at ha
  obtain ⟨hx5, hr1, hr2, hne, heN, hn100, hn1⟩ := room1 hI hKE hE hx
  have hDg : Dg d n := by obtain ⟨a0, h1, _⟩ := hKE.shp hI; exact h1.dg
  have hn100' := hI.n100
  rw [← ha]
  clear ha
  generalize (fun k => a.tmps.getD k undef) = u
  conv => arg 2; whnf
  rw [F9m_lit, sg825_36, sg825_63, sg825_677]
  refine wp_seq_k ?_
  intro K2 hK2
  have NX : Hid (∀ (S e' : Nat) (c1 : Nat → Nat) (a : Act) (w1 : World), Blk w1 g N c1 → w.grownBy w1 (some g) → e' = S + n → e' ≤ e → (∀ j, j < n → c1 (S + j) = d j) → (F9p g N cap S e' n E x (dl x) fun k => a.tmps.getD k undef) = a → K2 a w1) :=
    Lib.hid fun S e' c1 a w1 hB1 hG1 hS he' hd hf => hK2 _ _ (wp_code (c := c9 [false, true, false, true]) (by kernel_rfl) (n9_c1b g N cap S e' n x E c1 w1 K Q a hf hB1 (by omega) (by omega) (by omega) hn100 hx hx5 (fun h => by have := hr1 h; omega) (fun h => by have := hr2 h; omega) (fun e2 c2 a2 w2 hB2 hG2 hT hf2 => by
      rw [hS] at hT
      have hR := res_c1 hDg hd hT hx hx5
      refine hfin S e2 c2 a2 w2 hB2 (Lib.grownBy_trans hG1 hG2) hR.1 ?_ hR.2 hf2
      rcases hT.2 with ⟨h3, h4, _⟩ | ⟨h3, h4, _⟩
      · have := hr1 h3; omega
      · have := hr2 h3; omega)))
  clear hK2 hfin hr1 hr2 hlen hDg
  have HX := Lib.hid hx
  have HB := Lib.hid hB
  have HE := Lib.hid hE
  have HEN := Lib.hid hEn
  clear hx hB hE hEn hnE
  have hqN := hI.qN
  rcases hKE with ⟨m, a1, a2, a3, a4, a5⟩ | ⟨a1, a2, a3, a4, a5⟩ | ⟨a1, a2, a3, a4, a5⟩
  · subst a1
    have b1 := a2.hm
    have b2 := a2.he
    have g1 : decide ((st : Int) < e) = true := decide_eq_true (by omega)
    have A3 := Lib.hid a3
    have A5 := Lib.hid a5
    clear a2 a3 a4 a5 HEN
    go_wp2
    exact NX.out m e c _ _ HB.out (World.grownBy.refl _ _) (by have := A3.out; omega) (Nat.le_refl _) (fun j hj => by rw [A5.out]) (F9p_at _ _ _ _ _ _ _ _ _ rfl ⟨rfl, rfl, rfl, vi (by have := A3.out; omega), rfl, rfl, rfl, rfl, rfl, trivial⟩)
  · subst a1
    have b1 := a2.hn
    have g1 : decide ((k : Int) < e) = false := decide_eq_false (by omega)
    have A3 := Lib.hid a3
    have A5 := Lib.hid a5
    have b3 : e ≤ k := by omega
    clear a2 a3 a4 a5 HEN
    go_wp2
    exact NX.out 0 e c _ _ HB.out (World.grownBy.refl _ _) (by have := A3.out; omega) (Nat.le_refl _) (fun j hj => by rw [A5.out, Nat.zero_add]) (F9p_at _ _ _ _ _ _ _ _ _ rfl ⟨rfl, rfl, rfl, rfl, rfl, rfl, rfl, rfl, rfl, trivial⟩)
  · subst a1
    have b1 := a2.h1
    have b2 := a2.he
    have g1 : decide ((k : Int) < e) = true := decide_eq_true (by omega)
    have g2 : ((k : Int) == 0) = false := beq_false_of_ne (by omega)
    have A3 := Lib.hid a3
    have A5 := Lib.hid a5
    clear a2 a3 a4 a5 HEN
    by_cases h3 : (k : Int) < (e : Int) - k - 1
    · have g3 : decide ((k : Int) < (e : Int) - k - 1) = true := decide_eq_true h3
      have z1 : N ≠ 0 := by omega
      have z2 : 1 ≤ N := by omega
      have z3 : 1 ≤ cap := by omega
      have z4 : cap ≠ 1 := by omega
      have z5 : (k : Int) ≤ cap := by omega
      have z6 : IntKind.i64.wrap 1 = 1 := by decide
      have z7 : (1 : Int) ≤ N := by omega
      have z8 : cap ≠ 0 := by omega
      clear h3
      go_wp2
      go_still_tail 8, (by kernel_rfl)
      refine wpList_copy_blk rfl (.tmp 449) (.tmp 453) rfl g N c HB.out _ _ _ _ _ _ rfl rfl k (by show k = min _ _; omega) (by omega) (by omega) ?_
      intro w2 hB2 hG2
      go_wp2
      refine NX.out 1 e _ _ _ hB2.out ?_ (by have := A3.out; omega) (Nat.le_refl _) (fun j hj => ?_) (F9p_at _ _ _ _ _ _ _ _ _ rfl ⟨rfl, rfl, rfl, rfl, rfl, rfl, rfl, rfl, rfl, trivial⟩)
      · exact ⟨hG2.out.os, hG2.out.tape, hG2.out.output, hG2.out.size, hG2.out.block⟩
      · rw [A5.out]
        have := A3.out
        show _ = c (dpos k j)
        unfold cpy dpos
        by_cases hjk : j < k
        · rw [if_pos (by omega), if_pos hjk]; congr 1; omega
        · rw [if_neg (by omega), if_neg hjk]; congr 1; omega
    · have g3 : decide ((k : Int) < (e : Int) - k - 1) = false := decide_eq_false h3
      have z1 : cap ≠ k := by omega
      have z2 : (k : Int) ≤ N := by omega
      have z3 : IntKind.i64.wrap ((k : Int) + 1) = (k : Int) + 1 := IntWalk.i64_in _ (by omega)
      have z4 : cap ≠ k + 1 := by omega
      have z5 : (e : Int) ≤ cap := by omega
      have z6 : (k : Int) + 1 ≤ e := by omega
      have z7 : (0 : Int) ≤ (k : Int) + 1 := by omega
      have z8 : ((k : Int) + 1).toNat = k + 1 := by omega
      clear h3
      go_wp2
      go_still_tail 8, (by kernel_rfl)
      refine wpList_copy_blk rfl (.tmp 459) (.tmp 464) rfl g N c HB.out _ _ _ _ _ _ rfl rfl (e - (k + 1)) (by show _ = min _ _; omega) (by omega) (by omega) ?_
      intro w2 hB2 hG2
      go_wp2
      refine NX.out 0 (e - 1) _ _ _ hB2.out ?_ (by have := A3.out; omega) (by omega) (fun j hj => ?_) (F9p_at _ _ _ _ _ _ _ _ _ rfl ⟨rfl, rfl, rfl, rfl, vi (by omega), rfl, rfl, rfl, rfl, trivial⟩)
      · exact ⟨hG2.out.os, hG2.out.tape, hG2.out.output, hG2.out.size, hG2.out.block⟩
      · rw [A5.out]
        have := A3.out
        show _ = c (dpos k j)
        unfold cpy dpos
        by_cases hjk : j < k
        · rw [if_neg (by omega), if_pos hjk]; congr 1; omega
        · rw [if_pos (by omega), if_neg hjk]; congr 1; omega
set_option maxRecDepth 100000


set_option maxHeartbeats 4000000 in
theorem n9_c4t (g N cap S e x : Nat) (c1 : Nat → Nat) (w : World) (K : Act → World → Prop) (Q : Exit → Act → World → Prop) (a : Act) (ha : (F9v g N cap S e (-(x : Int)) (1 + dl x) fun k => a.tmps.getD k undef) = a)
    (hB : Blk w g N c1) (hN : N ≤ 100) (hx1 : x < 100000) (hr : e + 2 + dl x ≤ N)
    (hfin : ∀ (e' : Nat) (c' : Nat → Nat) (a : Act) (w' : World), Blk w' g N c' → w.grownBy w' (some g) → TlN c' c1 e e' x → (F9z g N cap S e' fun k => a.tmps.getD k undef) = a → K a w') :
    Code.wp Tryd.prog (c9 [false, true, true, true, true, true, true, true, true, true, true, true, true]) (Exit.then K Q) a w := by
  rw [← ha]
  clear ha
  generalize (fun k => a.tmps.getD k undef) = u
  have HF := Lib.hid hfin
  have HB := Lib.hid hB
  clear hfin hB
  conv => arg 2; whnf
  rw [F9v_lit, sg825_36, sg825_63, sg825_677]
  obtain ⟨hxl, hd1, hd5⟩ := dl_lt hx1
  clear hxl
  obtain ⟨L, hL⟩ : ∃ L, dl x = L := ⟨_, rfl⟩
  rw [hL] at hd1 hd5 hr ⊢
  have HL := Lib.hid hL
  clear hL
  obtain ⟨M, hM⟩ : ∃ M, 1 + L = M := ⟨_, rfl⟩
  rw [hM]
  have hM1 : M ≤ L + 1 := by omega
  have hM2 : L + 1 ≤ M := by omega
  clear hM
  have f1 := HB.out.free e (by omega)
  have k1 := HB.out.cell e (by omega)
  have f2 := HB.out.free (e + 1) (by omega)
  have k2 := HB.out.cell (e + 1) (by omega)
  have b1 : (e : Int) < N := by omega
  have b2 : (e : Int) + 1 < N := by omega
  have hb2 := (HB.out.set e 101 (by omega)).set (e + 1) 45 (by omega)
  have hg2 := gb_set (gb_set (World.grownBy.refl w (some g)) e (Value.int .u8 (101 : Int))) (e + 1) (Value.int .u8 (45 : Int))
  have HB2 := Lib.hid hb2
  have HG2 := Lib.hid hg2
  clear hb2 hg2
  go_wp2
  rw [show (e : Int) + 2 + (M : Int) - 2 = ((e + 2 + L - 1 : Nat) : Int) from by omega]
  rename_i KK hKK
  have HR : ∀ (v i : Nat) (c' : Nat → Nat) (a' : Act) (w1 : World), Blk w1 g N c' → w.grownBy w1 (some g) → WrT c' (upb (upb c1 e 101) (e + 1) 45) (e + 2) L x L → (F9w g N cap S (e + 2) v M i fun k => a'.tmps.getD k undef) = a' → KK a' w1 := by
    rintro v i c' a' w1 hBc hGc hW he2
    rw [← he2]
    apply hKK
    clear hKK he2
    generalize (fun k => a'.tmps.getD k undef) = u
    rw [F9w_lit, sg825_36, sg825_63, sg825_677]
    have HBC := Lib.hid hBc
    have HGC := Lib.hid hGc
    have HW := Lib.hid hW
    clear hBc hGc hW f1 k1 f2 k2
    go_wp2
    refine HF.out (e + 2 + L) c' _ _ HBC.out HGC.out ⟨fun j hj => by rw [HW.out.2 j (by omega)]; unfold upb; rw [if_neg (by omega), if_neg (by omega)], by rw [HL.out], by rw [HW.out.2 e (by omega)]; unfold upb; rw [if_neg (by omega), if_pos rfl], by rw [HW.out.2 (e + 1) (by omega)]; unfold upb; rw [if_pos rfl], by rw [HL.out]; exact HW.out.all⟩ (F9z_at _ _ _ _ _ rfl ⟨rfl, rfl, rfl, rfl, vi (by omega), trivial⟩)
  have HR := Lib.hid HR
  clear hKK f1 k1 f2 k2
  refine wp_loop_x (fun y : Nat × Nat => F9w g N cap S (e + 2) y.1 M y.2) (fun m y w' => m ≤ L ∧ y.1 = x / 10 ^ (L - m) ∧ y.2 = e + 2 + L - 1 - (L - m) ∧ ∃ c', Blk w' g N c' ∧ w.grownBy w' (some g) ∧ WrT c' (upb (upb c1 e 101) (e + 1) 45) (e + 2) L x (L - m)) L (x, e + 2 + L - 1)
    ⟨Nat.le_refl _, by simp, by simp, upb (upb c1 e 101) (e + 1) 45, HB2.out, HG2.out, by rw [Nat.sub_self]; exact WrT.zero _ _ _ _⟩ (F9w_at _ _ _ _ _ _ _ _ rfl ⟨rfl, rfl, rfl, rfl, rfl, rfl, rfl, rfl, trivial⟩) ?_
  rintro m ⟨v, i⟩ u w2 ⟨hm, hv, hi, c', hBc, hGc, hW⟩ K2 hK2
  simp only at hv hi
  have HK := Lib.hid hK2
  have HBC := Lib.hid hBc
  have HGC := Lib.hid hGc
  have HW := Lib.hid hW
  have HV := Lib.hid hv
  clear hK2 hBc hGc hW
  have hv5 : v < 100000 := Nat.lt_of_le_of_lt (by rw [hv]; exact Nat.div_le_self _ _) hx1
  clear hv
  rw [F9w_lit, sg825_36, sg825_63, sg825_677]
  by_cases hm0 : m = 0
  · subst hm0
    have l1 : decide ((e : Int) + 2 ≤ i) = false := decide_eq_false (by omega)
    have l1' : decide (((e + 2 : Nat) : Int) ≤ i) = false := decide_eq_false (by omega)
    clear hi
    go_wp2
    exact HR.out v i c' _ _ HBC.out HGC.out HW.out (F9w_at _ _ _ _ _ _ _ _ rfl ⟨rfl, rfl, rfl, rfl, rfl, rfl, rfl, rfl, trivial⟩)
  · have l1 : decide ((e : Int) + 2 ≤ i) = true := decide_eq_true (by omega)
    have l1' : decide (((e + 2 : Nat) : Int) ≤ i) = true := decide_eq_true (by omega)
    have f1 := HBC.out.free i (by omega)
    have k1 := HBC.out.cell i (by omega)
    have b1 : (i : Int) < N := by omega
    have hi1 : 1 ≤ i := by omega
    have HI := Lib.hid hi
    clear hi
    go_wp2
    rw [show (i : Int) - 1 = ((i - 1 : Nat) : Int) from by omega, show -(-((v : Int) % 10) % 256) % 256 + 48 = ((v % 10 + 48 : Nat) : Int) from by omega]
    exact HK.out (m - 1) (v / 10, i - 1) _ _ (by omega) ⟨by omega, by show v / 10 = _; rw [show L - (m - 1) = (L - m) + 1 by omega, div_next, ← HV.out], by show i - 1 = _; have := HI.out; omega, upb c' i (v % 10 + 48), HBC.out.set i _ (by omega), gb_set HGC.out _ _, by
      rw [show L - (m - 1) = (L - m) + 1 by omega]; exact HW.out.next (by omega) HI.out HV.out⟩ (F9w_at _ _ _ _ _ _ _ _ rfl ⟨rfl, rfl, rfl, rfl, rfl, vi (by omega), rfl, rfl, trivial⟩)

set_option maxHeartbeats 4000000 in
theorem n9_c2t (g N cap S e x : Nat) (c1 : Nat → Nat) (w : World) (K : Act → World → Prop) (Q : Exit → Act → World → Prop) (a : Act) (ha : (F9q g N cap S e (-(x : Int)) (1 + dl x) fun k => a.tmps.getD k undef) = a)
    (hB : Blk w g N c1) (hN : N ≤ 100) (hx1 : x < 100000) (hr : e + 2 + dl x ≤ N)
    (hfin : ∀ (e' : Nat) (c' : Nat → Nat) (a : Act) (w' : World), Blk w' g N c' → w.grownBy w' (some g) → TlN c' c1 e e' x → (F9z g N cap S e' fun k => a.tmps.getD k undef) = a → K a w') :
    Code.wp Tryd.prog (c9 [false, true, true, true, false, true, true]) (Exit.then K Q) a w := by
  rw [← ha]
  clear ha
  generalize (fun k => a.tmps.getD k undef) = u
  have HF := Lib.hid hfin
  have HB := Lib.hid hB
  clear hfin hB
  conv => arg 2; whnf
  rw [F9q_lit, sg825_36, sg825_63, sg825_677]
  obtain ⟨hxl, hd1, hd5⟩ := dl_lt hx1
  clear hxl
  obtain ⟨L, hL⟩ : ∃ L, dl x = L := ⟨_, rfl⟩
  rw [hL] at hd1 hd5 hr ⊢
  have HL := Lib.hid hL
  clear hL
  obtain ⟨M, hM⟩ : ∃ M, 1 + L = M := ⟨_, rfl⟩
  rw [hM]
  have hM1 : M ≤ L + 1 := by omega
  have hM2 : L + 1 ≤ M := by omega
  clear hM
  have f1 := HB.out.free e (by omega)
  have k1 := HB.out.cell e (by omega)
  have f2 := HB.out.free (e + 1) (by omega)
  have k2 := HB.out.cell (e + 1) (by omega)
  have b1 : (e : Int) < N := by omega
  have b2 : (e : Int) + 1 < N := by omega
  have hb2 := (HB.out.set e 101 (by omega)).set (e + 1) 45 (by omega)
  have hg2 := gb_set (gb_set (World.grownBy.refl w (some g)) e (Value.int .u8 (101 : Int))) (e + 1) (Value.int .u8 (45 : Int))
  have HB2 := Lib.hid hb2
  have HG2 := Lib.hid hg2
  clear hb2 hg2
  go_wp2
  rw [show (e : Int) + 2 + (M : Int) - 2 = ((e + 2 + L - 1 : Nat) : Int) from by omega]
  rename_i KK hKK
  have HR : ∀ (v i : Nat) (c' : Nat → Nat) (a' : Act) (w1 : World), Blk w1 g N c' → w.grownBy w1 (some g) → WrT c' (upb (upb c1 e 101) (e + 1) 45) (e + 2) L x L → (F9y g N cap S (e + 2) v M i fun k => a'.tmps.getD k undef) = a' → KK a' w1 := by
    rintro v i c' a' w1 hBc hGc hW he2
    rw [← he2]
    apply hKK
    clear hKK he2
    generalize (fun k => a'.tmps.getD k undef) = u
    rw [F9y_lit, sg825_36, sg825_63, sg825_677]
    have HBC := Lib.hid hBc
    have HGC := Lib.hid hGc
    have HW := Lib.hid hW
    clear hBc hGc hW f1 k1 f2 k2
    go_wp2
    refine HF.out (e + 2 + L) c' _ _ HBC.out HGC.out ⟨fun j hj => by rw [HW.out.2 j (by omega)]; unfold upb; rw [if_neg (by omega), if_neg (by omega)], by rw [HL.out], by rw [HW.out.2 e (by omega)]; unfold upb; rw [if_neg (by omega), if_pos rfl], by rw [HW.out.2 (e + 1) (by omega)]; unfold upb; rw [if_pos rfl], by rw [HL.out]; exact HW.out.all⟩ (F9z_at _ _ _ _ _ rfl ⟨rfl, rfl, rfl, rfl, vi (by omega), trivial⟩)
  have HR := Lib.hid HR
  clear hKK f1 k1 f2 k2
  refine wp_loop_x (fun y : Nat × Nat => F9y g N cap S (e + 2) y.1 M y.2) (fun m y w' => m ≤ L ∧ y.1 = x / 10 ^ (L - m) ∧ y.2 = e + 2 + L - 1 - (L - m) ∧ ∃ c', Blk w' g N c' ∧ w.grownBy w' (some g) ∧ WrT c' (upb (upb c1 e 101) (e + 1) 45) (e + 2) L x (L - m)) L (x, e + 2 + L - 1)
    ⟨Nat.le_refl _, by simp, by simp, upb (upb c1 e 101) (e + 1) 45, HB2.out, HG2.out, by rw [Nat.sub_self]; exact WrT.zero _ _ _ _⟩ (F9y_at _ _ _ _ _ _ _ _ rfl ⟨rfl, rfl, rfl, rfl, rfl, rfl, rfl, rfl, trivial⟩) ?_
  rintro m ⟨v, i⟩ u w2 ⟨hm, hv, hi, c', hBc, hGc, hW⟩ K2 hK2
  simp only at hv hi
  have HK := Lib.hid hK2
  have HBC := Lib.hid hBc
  have HGC := Lib.hid hGc
  have HW := Lib.hid hW
  have HV := Lib.hid hv
  clear hK2 hBc hGc hW
  have hv5 : v < 100000 := Nat.lt_of_le_of_lt (by rw [hv]; exact Nat.div_le_self _ _) hx1
  clear hv
  rw [F9y_lit, sg825_36, sg825_63, sg825_677]
  by_cases hm0 : m = 0
  · subst hm0
    have l1 : decide ((e : Int) + 2 ≤ i) = false := decide_eq_false (by omega)
    have l1' : decide (((e + 2 : Nat) : Int) ≤ i) = false := decide_eq_false (by omega)
    clear hi
    go_wp2
    exact HR.out v i c' _ _ HBC.out HGC.out HW.out (F9y_at _ _ _ _ _ _ _ _ rfl ⟨rfl, rfl, rfl, rfl, rfl, rfl, rfl, rfl, trivial⟩)
  · have l1 : decide ((e : Int) + 2 ≤ i) = true := decide_eq_true (by omega)
    have l1' : decide (((e + 2 : Nat) : Int) ≤ i) = true := decide_eq_true (by omega)
    have f1 := HBC.out.free i (by omega)
    have k1 := HBC.out.cell i (by omega)
    have b1 : (i : Int) < N := by omega
    have hi1 : 1 ≤ i := by omega
    have HI := Lib.hid hi
    clear hi
    go_wp2
    rw [show (i : Int) - 1 = ((i - 1 : Nat) : Int) from by omega, show -(-((v : Int) % 10) % 256) % 256 + 48 = ((v % 10 + 48 : Nat) : Int) from by omega]
    exact HK.out (m - 1) (v / 10, i - 1) _ _ (by omega) ⟨by omega, by show v / 10 = _; rw [show L - (m - 1) = (L - m) + 1 by omega, div_next, ← HV.out], by show i - 1 = _; have := HI.out; omega, upb c' i (v % 10 + 48), HBC.out.set i _ (by omega), gb_set HGC.out _ _, by
      rw [show L - (m - 1) = (L - m) + 1 by omega]; exact HW.out.next (by omega) HI.out HV.out⟩ (F9y_at _ _ _ _ _ _ _ _ rfl ⟨rfl, rfl, rfl, rfl, rfl, vi (by omega), rfl, rfl, trivial⟩)
set_option maxRecDepth 100000

def F9i (g N cap : Nat) (st k e n z : Nat) : (Nat → Value) → Act := FG 825 [(0, .slice (some ⟨g, 0, none⟩) N cap), (1, .int .i64 (-1)), (5, .bool false), (6, .int .i64 st), (7, .int .i64 k), (8, .int .i64 e), (19, .int .i64 n), (27, .int .i64 z)]
theorem F9i_lit (g N cap : Nat) (st k e n z : Nat) (u : Nat → Value) : F9i g N cap  st k e n z u = { tmps := List.toArray (.slice (some ⟨g, 0, none⟩) N cap :: .int .i64 (-1) :: u 2 :: u 3 :: u 4 :: .bool false :: .int .i64 st :: .int .i64 k :: .int .i64 e :: u 9 :: u 10 :: u 11 :: u 12 :: u 13 :: u 14 :: u 15 :: u 16 :: u 17 :: u 18 :: .int .i64 n :: u 20 :: u 21 :: u 22 :: u 23 :: u 24 :: u 25 :: u 26 :: .int .i64 z :: u 28 :: u 29 :: u 30 :: u 31 :: u 32 :: u 33 :: u 34 :: u 35 :: sg825_36 u (u 60 :: u 61 :: u 62 :: sg825_63 u (u 675 :: u 676 :: sg825_677 u))), defers := [] } := by kernel_rfl
theorem F9i_at (g N cap : Nat) (st k e n z : Nat) {L : List Value} (hl : L.length = 825) (hn : NmOk L [(0, .slice (some ⟨g, 0, none⟩) N cap), (1, .int .i64 (-1)), (5, .bool false), (6, .int .i64 st), (7, .int .i64 k), (8, .int .i64 e), (19, .int .i64 n), (27, .int .i64 z)]) : (F9i g N cap  st k e n z fun k => (Act.mk L.toArray []).tmps.getD k undef) = { tmps := L.toArray, defers := [] } := FG_at hl hn

theorem room0 {c d : Nat → Nat} {N q k st e n : Nat} {ex nx E : Int} (hI : In9 c N q k ex) (hK : KE c q k st e n nx d) (hE : E = nx + ex) :
    -10500 ≤ E ∧ E ≤ 10500 ∧ n ≤ e ∧ e ≤ N ∧ n ≤ 100 ∧ 1 ≤ n ∧ 1 ≤ e ∧ -200 ≤ nx ∧ nx ≤ 200 := by
  have hr := hI.room
  have h1 := hI.qN
  have h2 := hI.kq
  have h3 := hI.n100
  rcases hK with ⟨m, a1, a2, a3, a4, _⟩ | ⟨a1, a2, a3, a4, _⟩ | ⟨a1, a2, a3, a4, _⟩
  · have := a2.hm; have := a2.he; have := a2.hq; omega
  · have := a2.hn; have := a2.h1; omega
  · have := a2.h1; have := a2.he; have := a2.hq; omega
end Go.Proofs.YtblphppdfiipfaaDoor
