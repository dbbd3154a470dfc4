/- minify.Number: forms with zeros. Conditions: none. -/
import Derived.Test.YtblphppdfiipfaaDoorCMinC
namespace Go.Proofs.YtblphppdfiipfaaDoor
open Go.RowKit
set_option maxRecDepth 100000

theorem gb_dk {w w2 : World} {r : Option Nat} (h : ({ heap := w.heap, tape := w.tape, drawn := w.drawn + 1, os := w.os, output := w.output } : World).grownBy w2 r) : w.grownBy w2 r := ⟨h.os, h.tape, h.output, h.size, h.block⟩
theorem res_zs {b d : Nat → Nat} {n z M : Nat} {E : Int} (hD : Dg d n) (h0 : b 0 = 46) (h1 : ∀ j, j < z → b (1 + j) = 48) (h2 : ∀ j, j < n → b (1 + z + j) = d j) (hM : M = 1 + z + n) (hE : E = -(z : Int)) : Res b M n d E :=
  ⟨1 + z + n, 0, z, 0, by omega, shp_pt hD h0 h1 h2, fun h => absurd h (by omega), .inl ⟨hM.symm, rfl⟩, by omega⟩

set_option maxHeartbeats 4000000 in
theorem n9_3at (g N cap S e z n : Nat) (c d : Nat → Nat) (w : World) (K : Act → World → Prop) (Q : Exit → Act → World → Prop) (a : Act) (ha : (F9n g N cap S S z e fun k => a.tmps.getD k undef) = a)
    (hB : Blk w g N c) (hN : N ≤ 100) (he : e = S + (1 + z + n)) (heN : e ≤ N) (hDg : Dg d n) (hd : ∀ j, j < n → c (S + (1 + z + j)) = d j)
    (hfin : ∀ (c' : Nat → Nat) (a : Act) (w' : World), Blk w' g N c' → w.grownBy w' (some g) → Res (fun j => c' (S + j)) (e - S) n d (-(z : Int)) → (F9z g N cap S e fun k => a.tmps.getD k undef) = a → K a w') :
    Code.wp Tryd.prog (c9 [false, true, true, true, true, true, false, true, true, false, true, true, false, true]) (Exit.then K Q) a w := by
  rw [← ha]
  clear ha
  generalize (fun k => a.tmps.getD k undef) = u
  conv => arg 2; whnf
  rw [F9n_lit, sg825_36, sg825_63, sg825_677]
  have HF := Lib.hid hfin
  have HDG := Lib.hid hDg
  have HE := Lib.hid he
  have HD := Lib.hid hd
  have hne : S + (1 + z + n) ≤ e := by omega
  have f1 := hB.free S (by omega)
  have k1 := hB.cell S (by omega)
  have b1 : (S : Int) < N := by omega
  have HB := Lib.hid (hB.set S 46 (by omega))
  clear hB hDg hfin he hd
  go_wp2
  refine wp_loop_x (fun t : Nat => F9o g N cap S S z t e) (fun m t w' => m = z - t ∧ t ≤ z ∧ ∃ c', Blk w' g N c' ∧ w.grownBy w' (some g) ∧ (∀ j, j < t → c' (S + (1 + j)) = 48) ∧ ∀ j, (j ≤ S ∨ S + 1 + z ≤ j) → c' j = upb c S 46 j) z 0
    ⟨rfl, by omega, _, HB.out, gb_set (World.grownBy.refl _ _) _ _, fun j hj => absurd hj (by omega), fun _ _ => rfl⟩ (F9o_at _ _ _ _ _ _ _ _ rfl ⟨rfl, rfl, rfl, rfl, rfl, rfl, rfl, rfl, trivial⟩) ?_
  clear f1 k1
  rintro m t u w2 ⟨hm, ht, c', hBc, hGc, hz, ho⟩ K2 hK2
  have HK := Lib.hid hK2
  have HM := Lib.hid hm
  have HGC := Lib.hid hGc
  have HZ := Lib.hid hz
  have HO := Lib.hid ho
  have HBC := Lib.hid hBc
  clear hK2 hm hGc hz ho hBc
  rw [F9o_lit, sg825_36, sg825_63, sg825_677]
  by_cases htz : t < z
  · have g1 : decide ((t : Int) < z) = true := decide_eq_true (by omega)
    have f2 := HBC.out.free (S + 1 + t) (by omega)
    have k2 := HBC.out.cell (S + 1 + t) (by omega)
    have b2 : (S : Int) + 1 + t < N := by omega
    have b3 : (0 : Int) ≤ (S : Int) + 1 + t := by omega
    have b4 : ((S : Int) + 1 + t).toNat = S + 1 + t := by omega
    go_wp2
    exact HK.out (z - (t + 1)) (t + 1) _ _ (by have := HM.out; omega) ⟨rfl, by omega, upb c' (S + 1 + t) 48, HBC.out.set _ 48 (by omega), gb_set HGC.out _ _, fun j hj => by
      unfold upb
      by_cases e1 : j = t
      · rw [if_pos (by omega)]
      · rw [if_neg (by omega)]; exact HZ.out j (by omega), fun j hj => by
      rw [← HO.out j hj]
      show (if j = S + 1 + t then 48 else c' j) = c' j
      rw [if_neg (by omega)]⟩ (F9o_at _ _ _ _ _ _ _ _ rfl ⟨rfl, rfl, rfl, rfl, rfl, rfl, rfl, vi (by omega), trivial⟩)
  · obtain rfl : t = z := by omega
    have g1 : decide ((t : Int) < t) = false := decide_eq_false (by omega)
    go_wp2
    refine HF.out c' _ _ HBC.out HGC.out ?_ (F9z_at _ _ _ _ _ rfl ⟨rfl, rfl, rfl, rfl, rfl, trivial⟩)
    refine res_zs HDG.out ?_ HZ.out (fun j hj => ?_) (by have := HE.out; omega) rfl
    · show c' (S + 0) = 46
      rw [HO.out _ (by omega)]; unfold upb; rw [if_pos (by omega)]
    · show c' (S + (1 + t + j)) = d j
      rw [HO.out _ (by omega)]; unfold upb; rw [if_neg (by omega)]; exact HD.out j hj

set_option maxHeartbeats 4000000 in
theorem n9_3ai (g N cap q k st e n z : Nat) (c d : Nat → Nat) (ex nx E : Int) (w : World) (K : Act → World → Prop) (Q : Exit → Act → World → Prop) (a : Act)
    (ha : (F9i g N cap st k e n z fun k => a.tmps.getD k undef) = a) (hI : In9 c N q k ex) (hB : Blk w g N c) (hc : N ≤ cap) (hz3 : E < -3 → dl z + 1 < 1 + dl (z + n) → k < e → False) (hKE : KE c q k st e n nx d) (hk : ∃ m, st = k ∧ K1 c q k e m ∧ n = e - m ∧ nx = (k : Int) - m + 1 ∧ d = fun j => c (m + j)) (hE : E = nx + ex) (hnE : E < n) (hz : E = -(z : Int)) (hz1 : 1 ≤ z) (hz2 : z ≤ 1 + dl (z + n))
    (hfin : ∀ (S e' : Nat) (c' : Nat → Nat) (a : Act) (w' : World), Blk w' g N c' → w.grownBy w' (some g) → S < e' → e' ≤ N → Res (fun j => c' (S + j)) (e' - S) n d E → (F9z g N cap S e' fun k => a.tmps.getD k undef) = a → K a w') :
    Code.wp Tryd.prog (c9 [false, true, true, true, true, true, false, true, true, false]) (Exit.then K Q) a w := by
  obtain ⟨hE1, hE2, hne, heN, hn100, hn1, he1, _, _⟩ := room0 hI hKE hE
  have hDg : Dg d n := by obtain ⟨a0, h1, _⟩ := hKE.shp hI; exact h1.dg
  have hN100 := hI.n100
  have hqN := hI.qN
  have hkq := hI.kq
  have hroom := hI.room
  rw [← ha]
  clear ha
  generalize (fun k => a.tmps.getD k undef) = u
  conv => arg 2; whnf
  rw [F9i_lit, sg825_36, sg825_63, sg825_677]
  have HF := Lib.hid hfin
  have HB := Lib.hid hB
  have HI := Lib.hid hI
  have HE := Lib.hid hE
  have HDG := Lib.hid hDg
  obtain ⟨m, a1, a2, a3, a4, a5⟩ := hk
  clear hB hI hKE hDg hfin
  have HZ0 := Lib.hid hz
  subst a1
  have b1 := a2.hm
  have b2 := a2.he
  have b4 := a2.hq
  have A2 := Lib.hid a2
  have A3 := Lib.hid a3
  have A4 := Lib.hid a4
  have A5 := Lib.hid a5
  have hdz := dl_cases (z + n) (by omega)
  have hdz2 := dl_cases z (by omega)
  have hzz : z ≤ 3 := by
    by_cases h : z ≤ 3
    · exact h
    · exact (hz3 (by omega) (by omega) (by omega)).elim
  have hr : (m < st + z + 1) → e + (st + z + 1 - m) ≤ N := by
    have hdy := dl_cases ex.natAbs (by omega)
    intro _
    omega
  obtain ⟨D, hD⟩ : ∃ D : Int, (e : Int) - n - z - 1 = D := ⟨_, rfl⟩
  have hDe : D = (m : Int) - z - 1 := by omega
  have HDE := Lib.hid hDe
  have hD1 : -200 ≤ D := by omega
  have hD2 : D ≤ 200 := by omega
  clear a2 a3 a4 a5 hE hroom hdz hdz2 hz hz2 hz3 hnE hDe
  refine wp_seq_h ?_
  intro K2 HK2
  go_wp2
  apply HK2.out
  clear HK2 K2
  clear hD
  by_cases hDk : D = st
  · have g1 : (D != (st : Int)) = false := by simp [hDk]
    have HDK := Lib.hid hDk
    clear hDk
    refine wp_seq_h ?_
    intro K2 HK2
    go_wp2
    apply HK2.out
    clear HK2 K2
    refine wp_cond (t := false) rfl ?_
    rw [if_neg (by decide)]
    go_wp2
    refine HF.out st e c _ _ HB.out (World.grownBy.refl _ _) (by omega) heN ?_ (F9z_at _ _ _ _ _ rfl ⟨rfl, rfl, rfl, rfl, rfl, trivial⟩)
    refine res_zs HDG.out (by show c (st + 0) = 46; exact HI.out.dot (by omega)) (fun j hj => ?_) (fun j hj => ?_) (by have := A3.out; have := HDE.out; have := HDK.out; omega) HZ0.out
    · show c (st + (1 + j)) = 48
      have := HDE.out; have := HDK.out
      exact A2.out.z _ (by omega) (by omega)
    · rw [A5.out]
      have := HDE.out; have := HDK.out
      show c (st + (1 + z + j)) = c (m + j)
      congr 1; omega
  have g1 : (D != (st : Int)) = true := by simpa using hDk
  refine wp_seq_h ?_
  intro K2 HK2
  go_wp2
  apply HK2.out
  clear HK2 K2
  refine wp_cond (t := true) rfl ?_
  rw [if_pos rfl]
  refine wp_seq_k ?_
  intro K2 hK2
  have NX : Hid (∀ (S e' : Nat) (c1 : Nat → Nat) (a : Act) (w1 : World), Blk w1 g N c1 → w.grownBy w1 (some g) → e' = S + (1 + z + n) → e' ≤ N → (∀ j, j < n → c1 (S + (1 + z + j)) = d j) → (F9n g N cap S S z e' fun k => a.tmps.getD k undef) = a → K2 a w1) :=
    Lib.hid fun S e' c1 a w1 hB1 hG1 h1 h2 h3 hf => hK2 _ _ (wp_code (c := c9 [false, true, true, true, true, true, false, true, true, false, true, true, false, true]) (by kernel_rfl) (n9_3at g N cap S e' z n c1 d w1 K Q a hf hB1 hN100 h1 h2 HDG.out h3 (fun c2 a2 w2 hB2 hG2 hR hf2 => HF.out S e' c2 a2 w2 hB2 (Lib.grownBy_trans hG1 hG2) (by omega) h2 (by rw [HZ0.out]; exact hR) hf2)))
  clear hK2
  by_cases hDs : D < st
  · obtain ⟨z', hz'⟩ : ∃ z' : Nat, (st : Int) - D = z' := ⟨((st : Int) - D).toNat, by omega⟩
    have hr2 : e + z' ≤ N := by have := hr (by have := HDE.out; omega); have := HDE.out; omega
    have hz1' : 0 < z' := by omega
    have g2 : decide ((0 : Int) < z') = true := decide_eq_true (by omega)
    have g3 : decide ((st : Int) < e) = true := decide_eq_true (by omega)
    have z1 : IntKind.i64.wrap ((st : Int) + 1) = (st : Int) + 1 := IntWalk.i64_in _ (by omega)
    have z2 : IntKind.i64.wrap ((st : Int) + 1 + z') = (st : Int) + 1 + z' := IntWalk.i64_in _ (by omega)
    have z3 : (0 : Int) ≤ (st : Int) + 1 + z' := by omega
    have z4 : ((st : Int) + 1 + z').toNat = st + 1 + z' := by omega
    have z5 : (st : Int) + 1 + z' ≤ N := by omega
    have z6 : cap ≠ st + 1 + z' := by omega
    have z7 : (0 : Int) ≤ (st : Int) + 1 := by omega
    have z8 : ((st : Int) + 1).toNat = st + 1 := by omega
    have z9 : (st : Int) + 1 ≤ e := by omega
    have z10 : (e : Int) ≤ cap := by omega
    have z11 : cap ≠ st + 1 := by omega
    clear hr hDk
    have HZ' : Hid ((st : Int) - D = z') := Lib.hid hz'
    go_wp2
    go_still_tail 11, (by kernel_rfl)
    refine wpList_copy_blk rfl (.tmp 630) (.tmp 635) rfl g N c HB.out _ _ _ _ _ _ rfl rfl (e - (st + 1)) (by show _ = min _ _; omega) (by omega) (by omega) ?_
    intro w2 hB2 hG2
    go_wp2
    refine NX.out st (e + z') _ _ _ hB2.out (gb_dk hG2.out) (by have := A3.out; have := HZ'.out; have := HDE.out; omega) hr2 (fun j hj => ?_) (F9n_at _ _ _ _ _ _ _ rfl ⟨rfl, rfl, rfl, rfl, vi (by omega), rfl, rfl, trivial⟩)
    rw [A5.out]
    have := HZ'.out; have := HDE.out; have := A3.out
    show cpy c (st + 1 + z') (st + 1) (e - (st + 1)) (st + (1 + z + j)) = c (m + j)
    unfold cpy
    rw [if_pos (by omega)]; congr 1; omega
  · obtain ⟨D', hD'⟩ : ∃ D' : Nat, D = D' := ⟨D.toNat, by omega⟩
    subst hD'
    have g2 : decide ((0 : Int) < (st : Int) - D') = false := decide_eq_false (by omega)
    have g3 : st ≤ D' := by omega
    clear hr hDk hDs
    go_wp2
    refine NX.out D' e c _ _ HB.out (World.grownBy.refl _ _) (by have := A3.out; have := HDE.out; omega) heN (fun j hj => ?_) (F9n_at _ _ _ _ _ _ _ rfl ⟨rfl, rfl, rfl, vi (by omega), rfl, rfl, rfl, trivial⟩)
    rw [A5.out]
    have := HDE.out
    show c (D' + (1 + z + j)) = c (m + j)
    congr 1; omega

set_option maxHeartbeats 4000000 in
theorem n9_3aii (g N cap q k st e n z : Nat) (c d : Nat → Nat) (ex nx E : Int) (w : World) (K : Act → World → Prop) (Q : Exit → Act → World → Prop) (a : Act)
    (ha : (F9i g N cap st k e n z fun k => a.tmps.getD k undef) = a) (hI : In9 c N q k ex) (hB : Blk w g N c) (hc : N ≤ cap) (_hz3 : E < -3 → dl z + 1 < 1 + dl (z + n) → k < e → False) (hKE : KE c q k st e n nx d) (hk : st = 0 ∧ K2 c q k n ∧ e = n ∧ nx = k ∧ d = fun j => c j) (hE : E = nx + ex) (hnE : E < n) (hz : E = -(z : Int)) (hz1 : 1 ≤ z) (hz2 : z ≤ 1 + dl (z + n))
    (hfin : ∀ (S e' : Nat) (c' : Nat → Nat) (a : Act) (w' : World), Blk w' g N c' → w.grownBy w' (some g) → S < e' → e' ≤ N → Res (fun j => c' (S + j)) (e' - S) n d E → (F9z g N cap S e' fun k => a.tmps.getD k undef) = a → K a w') :
    Code.wp Tryd.prog (c9 [false, true, true, true, true, true, false, true, true, false]) (Exit.then K Q) a w := by
  obtain ⟨hE1, hE2, hne, heN, hn100, hn1, he1, _, _⟩ := room0 hI hKE hE
  have hDg : Dg d n := by obtain ⟨a0, h1, _⟩ := hKE.shp hI; exact h1.dg
  have hN100 := hI.n100
  have hqN := hI.qN
  have hkq := hI.kq
  have hroom := hI.room
  rw [← ha]
  clear ha
  generalize (fun k => a.tmps.getD k undef) = u
  conv => arg 2; whnf
  rw [F9i_lit, sg825_36, sg825_63, sg825_677]
  have HF := Lib.hid hfin
  have HB := Lib.hid hB
  have HI := Lib.hid hI
  have HE := Lib.hid hE
  have HDG := Lib.hid hDg
  obtain ⟨a1, a2, a3, a4, a5⟩ := hk
  clear hB hI hKE hDg hfin
  have HZ0 := Lib.hid hz
  subst a1
  have b1 := a2.hn
  have b2 := a2.h1
  have g0 : ((k : Int) == 0) = false := beq_false_of_ne (by omega)
  have A2 := Lib.hid a2
  have A3 := Lib.hid a3
  have A4 := Lib.hid a4
  have A5 := Lib.hid a5
  have hdz := dl_cases (z + n) (by omega)
  have hdz2 := dl_cases z (by omega)
  have b3 : e ≤ k := by omega
  have hr : e + (z + 1) ≤ N := by
    have hdy := dl_cases ex.natAbs (by omega)
    omega
  obtain ⟨D, hD⟩ : ∃ D : Int, (e : Int) - n - z - 1 = D := ⟨_, rfl⟩
  have hDe : D = -(z : Int) - 1 := by omega
  have g1 : (D != (k : Int)) = true := by simp; omega
  have HDE := Lib.hid hDe
  have hD1 : -200 ≤ D := by omega
  have hD2 : D ≤ 200 := by omega
  have g2 : decide (0 < -D) = true := decide_eq_true (by omega)
  have hL : min k (N - (z + 1)) = k ∨ min k (N - (z + 1)) = N - (z + 1) := by omega
  obtain ⟨L, hLL⟩ : ∃ L, min k (N - (z + 1)) = L := ⟨_, rfl⟩
  have hL2 : n ≤ L := by omega
  have HLL := Lib.hid hLL
  have y1 : -D = (z : Int) + 1 := by omega
  have Y1 := Lib.hid y1
  clear a2 a3 a4 a5 hE hroom hdz hdz2 hz hz2 hnE y1 hDe hL hLL
  refine wp_seq_h ?_
  intro K2 HK2
  go_wp2
  apply HK2.out
  clear HK2 K2
  clear hD
  refine wp_seq_h ?_
  intro K2 HK2
  go_wp2
  apply HK2.out
  clear HK2 K2
  refine wp_cond (t := true) rfl ?_
  rw [if_pos rfl]
  refine wp_seq_k ?_
  intro K2 hK2
  have NX : Hid (∀ (S e' : Nat) (c1 : Nat → Nat) (a : Act) (w1 : World), Blk w1 g N c1 → w.grownBy w1 (some g) → e' = S + (1 + z + n) → e' ≤ N → (∀ j, j < n → c1 (S + (1 + z + j)) = d j) → (F9n g N cap S S z e' fun k => a.tmps.getD k undef) = a → K2 a w1) :=
    Lib.hid fun S e' c1 a w1 hB1 hG1 h1 h2 h3 hf => hK2 _ _ (wp_code (c := c9 [false, true, true, true, true, true, false, true, true, false, true, true, false, true]) (by kernel_rfl) (n9_3at g N cap S e' z n c1 d w1 K Q a hf hB1 hN100 h1 h2 HDG.out h3 (fun c2 a2 w2 hB2 hG2 hR hf2 => HF.out S e' c2 a2 w2 hB2 (Lib.grownBy_trans hG1 hG2) (by omega) h2 (by rw [HZ0.out]; exact hR) hf2)))
  clear hK2
  have z1 : cap ≠ 0 := by omega
  have z5 : (k : Int) ≤ cap := by omega
  rw [show D = -((z + 1 : Nat) : Int) from by have := HDE.out; omega] at g2 hD1 hD2 ⊢
  obtain ⟨z', hz'⟩ : ∃ z', z + 1 = z' := ⟨_, rfl⟩
  rw [hz'] at g2 hD1 hD2 hr ⊢
  have z6 : cap ≠ z' := by omega
  have z7 : (z' : Int) ≤ N := by omega
  have HZ' := Lib.hid hz'
  have g5 : decide ((0 : Int) < z') = true := decide_eq_true (by omega)
  have z8 : IntKind.i64.wrap (z' : Int) = z' := IntWalk.i64_in _ (by omega)
  have z9 : (0 : Int) ≤ z' := by omega
  have h5 : 0 < z' := by omega
  have g6 : decide ((0 : Int) < k) = true := decide_eq_true (by omega)
  have h6 : 0 < k := by omega
  clear hz'
  go_wp2
  go_still_tail 9, (by kernel_rfl)
  refine wpList_copy_blk rfl (.tmp 658) (.tmp 662) rfl g N c HB.out _ _ _ _ _ _ rfl rfl L (by have := HLL.out; have := HZ'.out; show _ = min _ _; omega) (by have := HLL.out; have := HZ'.out; omega) (by have := HLL.out; omega) ?_
  intro w2 hB2 hG2
  go_wp2
  refine NX.out 0 (e + z') (cpy c z' 0 L) _ _ ?_ (gb_dk hG2.out) (by have := A3.out; have := HZ'.out; omega) hr (fun j hj => ?_) (F9n_at _ _ _ _ _ _ _ rfl ⟨rfl, rfl, rfl, rfl, vi (by omega), rfl, rfl, trivial⟩)
  · have hB3 := hB2.out
    simpa using hB3
  · rw [A5.out]
    have := HZ'.out
    show cpy c z' 0 L (0 + (1 + z + j)) = c j
    unfold cpy
    rw [if_pos (by omega)]; congr 1; omega

set_option maxHeartbeats 4000000 in
theorem n9_3aiii (g N cap q k st e n z : Nat) (c d : Nat → Nat) (ex nx E : Int) (w : World) (K : Act → World → Prop) (Q : Exit → Act → World → Prop) (a : Act)
    (ha : (F9i g N cap st k e n z fun k => a.tmps.getD k undef) = a) (hI : In9 c N q k ex) (hB : Blk w g N c) (hc : N ≤ cap) (hz3 : E < -3 → dl z + 1 < 1 + dl (z + n) → k < e → False) (hKE : KE c q k st e n nx d) (hk : st = 0 ∧ K3 c q k e ∧ n = e - 1 ∧ nx = k ∧ d = fun j => c (dpos k j)) (hE : E = nx + ex) (hnE : E < n) (hz : E = -(z : Int)) (hz1 : 1 ≤ z) (hz2 : z ≤ 1 + dl (z + n))
    (hfin : ∀ (S e' : Nat) (c' : Nat → Nat) (a : Act) (w' : World), Blk w' g N c' → w.grownBy w' (some g) → S < e' → e' ≤ N → Res (fun j => c' (S + j)) (e' - S) n d E → (F9z g N cap S e' fun k => a.tmps.getD k undef) = a → K a w') :
    Code.wp Tryd.prog (c9 [false, true, true, true, true, true, false, true, true, false]) (Exit.then K Q) a w := by
  obtain ⟨hE1, hE2, hne, heN, hn100, hn1, he1, _, _⟩ := room0 hI hKE hE
  have hDg : Dg d n := by obtain ⟨a0, h1, _⟩ := hKE.shp hI; exact h1.dg
  have hN100 := hI.n100
  have hqN := hI.qN
  have hkq := hI.kq
  have hroom := hI.room
  rw [← ha]
  clear ha
  generalize (fun k => a.tmps.getD k undef) = u
  conv => arg 2; whnf
  rw [F9i_lit, sg825_36, sg825_63, sg825_677]
  have HF := Lib.hid hfin
  have HB := Lib.hid hB
  have HI := Lib.hid hI
  have HE := Lib.hid hE
  have HDG := Lib.hid hDg
  obtain ⟨a1, a2, a3, a4, a5⟩ := hk
  clear hB hI hKE hDg hfin
  have HZ0 := Lib.hid hz
  subst a1
  have b1 := a2.h1
  have b2 := a2.he
  have b4 := a2.hq
  have g0 : ((k : Int) == 0) = false := beq_false_of_ne (by omega)
  have A2 := Lib.hid a2
  have A3 := Lib.hid a3
  have A4 := Lib.hid a4
  have A5 := Lib.hid a5
  have hdz := dl_cases (z + n) (by omega)
  have hdz2 := dl_cases z (by omega)
  have hzz : z ≤ 3 := by
    by_cases h : z ≤ 3
    · exact h
    · exact (hz3 (by omega) (by omega) (by omega)).elim
  have hr : e + z ≤ N := by
    have hdy := dl_cases ex.natAbs (by omega)
    omega
  obtain ⟨D, hD⟩ : ∃ D : Int, (e : Int) - n - z - 1 = D := ⟨_, rfl⟩
  have hDe : D = -(z : Int) := by omega
  have HDE := Lib.hid hDe
  have g1 : (D != (k : Int)) = true := by simp; omega
  have hD1 : -200 ≤ D := by omega
  have hD2 : D ≤ 200 := by omega
  clear a2 a3 a4 a5 hE hroom hdz hdz2 hz hz2 hz3 hnE hDe
  refine wp_seq_h ?_
  intro K2 HK2
  go_wp2
  apply HK2.out
  clear HK2 K2
  clear hD
  refine wp_seq_h ?_
  intro K2 HK2
  go_wp2
  apply HK2.out
  clear HK2 K2
  refine wp_cond (t := true) rfl ?_
  rw [if_pos rfl]
  refine wp_seq_k ?_
  intro K2 hK2
  have NX : Hid (∀ (S e' : Nat) (c1 : Nat → Nat) (a : Act) (w1 : World), Blk w1 g N c1 → w.grownBy w1 (some g) → e' = S + (1 + z + n) → e' ≤ N → (∀ j, j < n → c1 (S + (1 + z + j)) = d j) → (F9n g N cap S S z e' fun k => a.tmps.getD k undef) = a → K2 a w1) :=
    Lib.hid fun S e' c1 a w1 hB1 hG1 h1 h2 h3 hf => hK2 _ _ (wp_code (c := c9 [false, true, true, true, true, true, false, true, true, false, true, true, false, true]) (by kernel_rfl) (n9_3at g N cap S e' z n c1 d w1 K Q a hf hB1 hN100 h1 h2 HDG.out h3 (fun c2 a2 w2 hB2 hG2 hR hf2 => HF.out S e' c2 a2 w2 hB2 (Lib.grownBy_trans hG1 hG2) (by omega) h2 (by rw [HZ0.out]; exact hR) hf2)))
  clear hK2
  rw [show D = -(z : Int) from HDE.out] at hD1 hD2 ⊢
  have g2 : decide ((0 : Int) < z) = true := decide_eq_true (by omega)
  have g3 : decide ((k : Int) < e) = true := decide_eq_true (by omega)
  have z1 : IntKind.i64.wrap ((k : Int) + 1) = (k : Int) + 1 := IntWalk.i64_in _ (by omega)
  have z2 : IntKind.i64.wrap ((k : Int) + 1 + z) = (k : Int) + 1 + z := IntWalk.i64_in _ (by omega)
  have z3 : (0 : Int) ≤ (k : Int) + 1 + z := by omega
  have z4 : ((k : Int) + 1 + z).toNat = k + 1 + z := by omega
  have z5 : (k : Int) + 1 + z ≤ N := by omega
  have z6 : cap ≠ k + 1 + z := by omega
  have z7 : (0 : Int) ≤ (k : Int) + 1 := by omega
  have z8 : ((k : Int) + 1).toNat = k + 1 := by omega
  have z9 : (k : Int) + 1 ≤ e := by omega
  have z10 : (e : Int) ≤ cap := by omega
  have z11 : cap ≠ k + 1 := by omega
  have z12 : cap ≠ 0 := by omega
  have z13 : (k : Int) ≤ cap := by omega
  have z14 : IntKind.i64.wrap ((z : Int) + 1) = (z : Int) + 1 := IntWalk.i64_in _ (by omega)
  have z15 : (0 : Int) ≤ (z : Int) + 1 := by omega
  have z19 : IntKind.i64.wrap (z : Int) = z := IntWalk.i64_in _ (by omega)
  have z16 : ((z : Int) + 1).toNat = z + 1 := by omega
  have z17 : (z : Int) + 1 ≤ N := by omega
  have z18 : cap ≠ z + 1 := by omega
  have g4 : decide ((0 : Int) < k) = true := decide_eq_true (by omega)
  go_wp2
  go_still_tail 11, (by kernel_rfl)
  refine wpList_copy_blk rfl (.tmp 630) (.tmp 635) rfl g N c HB.out _ _ _ _ _ _ rfl rfl (e - (k + 1)) (by show _ = min _ _; omega) (by omega) (by omega) ?_
  intro w2 hB2 hG2
  go_wp2
  go_still_tail 10, (by kernel_rfl)
  refine wpList_copy_blk rfl (.tmp 645) (.tmp 649) rfl g N _ hB2.out _ _ _ _ _ _ rfl rfl k (by show _ = min _ _; omega) (by omega) (by omega) ?_
  intro w3 hB3 hG3
  go_wp2
  refine NX.out 0 (e + z) _ _ _ hB3.out (Lib.grownBy_trans (gb_dk hG2.out) (gb_dk hG3.out)) (by have := A3.out; omega) hr (fun j hj => ?_) (F9n_at _ _ _ _ _ _ _ rfl ⟨rfl, rfl, rfl, rfl, vi (by omega), rfl, rfl, trivial⟩)
  rw [A5.out]
  have := A3.out
  show cpy (cpy c (k + 1 + z) (k + 1) (e - (k + 1))) (z + 1) 0 k (0 + (1 + z + j)) = c (dpos k j)
  unfold cpy dpos
  by_cases hjk : j < k
  · rw [if_pos (by omega), if_neg (by omega), if_pos hjk]; congr 1; omega
  · rw [if_neg (by omega), if_pos (by omega), if_neg hjk]; congr 1; omega
set_option maxRecDepth 100000

theorem gb_dl {w w2 : World} {r : Option Nat} (h : ({ heap := w.heap, tape := w.tape, drawn := w.drawn + 1, os := w.os, output := w.output } : World).grownBy w2 r) : w.grownBy w2 r := ⟨h.os, h.tape, h.output, h.size, h.block⟩

set_option maxHeartbeats 4000000 in
theorem n9_c2i (g N cap q k st e n lX lE : Nat) (c d : Nat → Nat) (ex nx E X : Int) (w : World) (K : Act → World → Prop) (Post : Ending → World → Prop) (a : Act)
    (ha : (F9m g N cap st k e ex n E X lX lE fun k => a.tmps.getD k undef) = a) (hI : In9 c N q k ex) (hB : Blk w g N c) (hc : N ≤ cap) (hKE : KE c q k st e n nx d) (hk : ∃ m, st = k ∧ K1 c q k e m ∧ n = e - m ∧ nx = (k : Int) - m + 1 ∧ d = fun j => c (m + j)) (hE : E = nx + ex) (hE3 : E < -3) (hX : X = E - n) (hlX : lX = lenI X) (hlE : lE = lenI E) (hll : lE < lX)
    (hret : Post (.returned (.slice (some ⟨g, 0, none⟩) N cap)) w)
    (hfin : ∀ (S e' : Nat) (c' : Nat → Nat) (a : Act) (w' : World), Blk w' g N c' → w.grownBy w' (some g) → S < e' → e' ≤ N → Res (fun j => c' (S + j)) (e' - S) n d E → (F9z g N cap S e' fun k => a.tmps.getD k undef) = a → K a w') :
    Code.wp Tryd.prog (c9 [false, true, true, true, false]) (Exit.then K (bodyPost Tryd.prog Tryd.f9 Post)) a w := by
  obtain ⟨hE1, hE2, hne, heN, hn100, hn1, he1, _, _⟩ := room0 hI hKE hE
  have hDg : Dg d n := by obtain ⟨a0, h1, _⟩ := hKE.shp hI; exact h1.dg
  have hN100 := hI.n100
  have hqN := hI.qN
  have hkq := hI.kq
  have hroom := hI.room
  obtain ⟨x, hx⟩ : ∃ x : Nat, E = -(x : Int) := ⟨E.natAbs, by omega⟩
  have hx5 : x < 100000 := by omega
  have hlE2 : lE = 1 + dl x := by
    rw [hlE, hx]
    unfold lenI
    rw [if_pos (by omega)]; congr 2; omega
  have hlX2 : lX = 1 + dl (n + x) := by
    rw [hlX, hX, hx]
    unfold lenI
    rw [if_pos (by omega)]; congr 2; omega
  have hdx := dl_cases x hx5
  have hdy := dl_cases (n + x) (by omega)
  have hde := dl_cases ex.natAbs (by omega)
  have HX := Lib.hid hx
  have HLE := Lib.hid hlE2
  rw [← ha]
  clear ha
  generalize (fun k => a.tmps.getD k undef) = u
  conv => arg 2; whnf
  rw [F9m_lit, sg825_36, sg825_63, sg825_677]
  have HF := Lib.hid hfin
  have HB := Lib.hid hB
  have HI := Lib.hid hI
  have HE := Lib.hid hE
  have HDG := Lib.hid hDg
  obtain ⟨m, a1, a2, a3, a4, a5⟩ := hk
  clear hB hI hKE hDg hfin
  subst a1
  have b1 := a2.hm
  have b2 := a2.he
  have b4 := a2.hq
  have A2 := Lib.hid a2
  have A3 := Lib.hid a3
  have A4 := Lib.hid a4
  have A5 := Lib.hid a5
  have HRET := Lib.hid hret
  obtain ⟨zz, hzz⟩ : ∃ zz, m = st + 1 + zz := ⟨m - 1 - st, by omega⟩
  have hr : e - zz + 2 + dl x ≤ N := by omega
  have hzE : -E + ex = (zz : Int) := by omega
  have HZZ := Lib.hid hzz
  have hm1 : st + 1 + zz ≤ m := by omega
  have hm2 : m ≤ st + 1 + zz := by omega
  have z0 : IntKind.i64.wrap (-E) = -E := IntWalk.i64_in _ (by omega)
  clear a2 a3 a4 a5 hE hroom hdx hdy hde hX hlX hlE hll hlE2 hlX2 hret hx hzz
  refine wp_seq_h ?_
  intro K2 HK2
  go_wp2
  apply HK2.out
  clear HK2 K2
  clear hzE z0
  refine wp_seq_k ?_
  intro K2 hK2
  have NX : Hid (∀ (S e' : Nat) (c1 : Nat → Nat) (a : Act) (w1 : World), Blk w1 g N c1 → w.grownBy w1 (some g) → e' = S + (n + 1) → e' + 2 + dl x ≤ N → c1 S = 46 → (∀ j, j < n → c1 (S + (1 + j)) = d j) → (F9q g N cap S e' (-(x : Int)) (1 + dl x) fun k => a.tmps.getD k undef) = a → K2 a w1) :=
    Lib.hid fun S e' c1 a w1 hB1 hG1 h1 h2 h0 h3 hf => hK2 _ _ (wp_code (c := c9 [false, true, true, true, false, true, true]) (by kernel_rfl) (n9_c2t g N cap S e' x c1 w1 K (bodyPost Tryd.prog Tryd.f9 Post) a hf hB1 hN100 hx5 h2 (fun e2 c2 a2 w2 hB2 hG2 hT hf2 => by
      rw [h1] at hT
      have hS := shp_pt (b := fun j => c1 (S + j)) (z := 0) HDG.out h0 (fun j hj => absurd hj (by omega)) h3
      rw [show 1 + 0 + n = n + 1 by omega] at hS
      have hR := res_neg (E := E) hS (fun h => absurd h (by omega)) hT (by have := HX.out; omega) hx5
      exact HF.out S e2 c2 a2 w2 hB2 (Lib.grownBy_trans hG1 hG2) hR.1 (by have := hT.2.1; omega) hR.2 hf2)))
  clear hK2
  by_cases hz0 : zz = 0
  · subst hz0
    go_wp2
    exact HRET.out
  · have g1 : decide ((0 : Int) < zz) = true := decide_eq_true (by omega)
    have g1' : 0 < zz := by omega
    have z1 : IntKind.i64.wrap ((st : Int) + 1) = (st : Int) + 1 := IntWalk.i64_in _ (by omega)
    have z2 : IntKind.i64.wrap ((st : Int) + 1 + zz) = (st : Int) + 1 + zz := IntWalk.i64_in _ (by omega)
    have z3 : (0 : Int) ≤ (st : Int) + 1 + zz := by omega
    have z4 : ((st : Int) + 1 + zz).toNat = st + 1 + zz := by omega
    have z5 : (st : Int) + 1 + zz ≤ e := by omega
    have z6 : cap ≠ st + 1 + zz := by omega
    have z7 : (0 : Int) ≤ (st : Int) + 1 := by omega
    have z8 : ((st : Int) + 1).toNat = st + 1 := by omega
    have z9 : (st : Int) + 1 ≤ N := by omega
    have z10 : (e : Int) ≤ cap := by omega
    have z11 : cap ≠ st + 1 := by omega
    go_wp2
    go_still_tail 11, (by kernel_rfl)
    refine wpList_copy_blk rfl (.tmp 541) (.tmp 548) rfl g N c HB.out _ _ _ _ _ _ rfl rfl n (by have := A3.out; show _ = min _ _; omega) (by have := A3.out; omega) (by have := A3.out; omega) ?_
    intro w2 hB2 hG2
    go_wp2
    refine NX.out st (e - zz) _ _ _ hB2.out (gb_dl hG2.out) (by have := A3.out; omega) hr ?_ (fun j hj => ?_) (F9q_at _ _ _ _ _ _ _ rfl ⟨rfl, rfl, rfl, rfl, vi (by omega), vi HX.out, vi (by rw [HLE.out]), trivial⟩)
    · show cpy c (st + 1) (st + 1 + zz) n st = 46
      unfold cpy
      rw [if_neg (by omega)]; exact HI.out.dot (by omega)
    · rw [A5.out]
      show cpy c (st + 1) (st + 1 + zz) n (st + (1 + j)) = c (m + j)
      unfold cpy
      rw [if_pos (by omega)]; congr 1; omega

set_option maxHeartbeats 4000000 in
theorem n9_c2iii (g N cap q k st e n lX lE : Nat) (c d : Nat → Nat) (ex nx E X : Int) (w : World) (K : Act → World → Prop) (Q : Exit → Act → World → Prop) (a : Act)
    (ha : (F9m g N cap st k e ex n E X lX lE fun k => a.tmps.getD k undef) = a) (hI : In9 c N q k ex) (hB : Blk w g N c) (hc : N ≤ cap) (hKE : KE c q k st e n nx d) (hk : st = 0 ∧ K3 c q k e ∧ n = e - 1 ∧ nx = k ∧ d = fun j => c (dpos k j)) (hE : E = nx + ex) (hE3 : E < -3) (hX : X = E - n) (hlX : lX = lenI X) (hlE : lE = lenI E) (hll : lE < lX)
    (hfin : ∀ (S e' : Nat) (c' : Nat → Nat) (a : Act) (w' : World), Blk w' g N c' → w.grownBy w' (some g) → S < e' → e' ≤ N → Res (fun j => c' (S + j)) (e' - S) n d E → (F9z g N cap S e' fun k => a.tmps.getD k undef) = a → K a w') :
    Code.wp Tryd.prog (c9 [false, true, true, true, false]) (Exit.then K Q) a w := by
  obtain ⟨hE1, hE2, hne, heN, hn100, hn1, he1, _, _⟩ := room0 hI hKE hE
  have hDg : Dg d n := by obtain ⟨a0, h1, _⟩ := hKE.shp hI; exact h1.dg
  have hN100 := hI.n100
  have hqN := hI.qN
  have hkq := hI.kq
  have hroom := hI.room
  obtain ⟨x, hx⟩ : ∃ x : Nat, E = -(x : Int) := ⟨E.natAbs, by omega⟩
  have hx5 : x < 100000 := by omega
  have hlE2 : lE = 1 + dl x := by
    rw [hlE, hx]
    unfold lenI
    rw [if_pos (by omega)]; congr 2; omega
  have hlX2 : lX = 1 + dl (n + x) := by
    rw [hlX, hX, hx]
    unfold lenI
    rw [if_pos (by omega)]; congr 2; omega
  have hdx := dl_cases x hx5
  have hdy := dl_cases (n + x) (by omega)
  have hde := dl_cases ex.natAbs (by omega)
  have HX := Lib.hid hx
  have HLE := Lib.hid hlE2
  rw [← ha]
  clear ha
  generalize (fun k => a.tmps.getD k undef) = u
  conv => arg 2; whnf
  rw [F9m_lit, sg825_36, sg825_63, sg825_677]
  have HF := Lib.hid hfin
  have HB := Lib.hid hB
  have HI := Lib.hid hI
  have HE := Lib.hid hE
  have HDG := Lib.hid hDg
  obtain ⟨a1, a2, a3, a4, a5⟩ := hk
  clear hB hI hKE hDg hfin
  subst a1
  have b1 := a2.h1
  have b2 := a2.he
  have b4 := a2.hq
  have g0 : ((k : Int) == 0) = false := beq_false_of_ne (by omega)
  have A2 := Lib.hid a2
  have A3 := Lib.hid a3
  have A4 := Lib.hid a4
  have A5 := Lib.hid a5
  have hr : e + 2 + dl x ≤ N := by omega
  have hzE : -E + ex = -(k : Int) := by omega
  have z0 : IntKind.i64.wrap (-E) = -E := IntWalk.i64_in _ (by omega)
  clear a2 a3 a4 a5 hE hroom hdx hdy hde hX hlX hlE hll hlE2 hlX2 hx
  refine wp_seq_h ?_
  intro K2 HK2
  go_wp2
  apply HK2.out
  clear HK2 K2
  clear hzE z0
  refine wp_seq_k ?_
  intro K2 hK2
  have NX : Hid (∀ (S e' : Nat) (c1 : Nat → Nat) (a : Act) (w1 : World), Blk w1 g N c1 → w.grownBy w1 (some g) → e' = S + (n + 1) → e' + 2 + dl x ≤ N → c1 S = 46 → (∀ j, j < n → c1 (S + (1 + j)) = d j) → (F9q g N cap S e' (-(x : Int)) (1 + dl x) fun k => a.tmps.getD k undef) = a → K2 a w1) :=
    Lib.hid fun S e' c1 a w1 hB1 hG1 h1 h2 h0 h3 hf => hK2 _ _ (wp_code (c := c9 [false, true, true, true, false, true, true]) (by kernel_rfl) (n9_c2t g N cap S e' x c1 w1 K Q a hf hB1 hN100 hx5 h2 (fun e2 c2 a2 w2 hB2 hG2 hT hf2 => by
      rw [h1] at hT
      have hS := shp_pt (b := fun j => c1 (S + j)) (z := 0) HDG.out h0 (fun j hj => absurd hj (by omega)) h3
      rw [show 1 + 0 + n = n + 1 by omega] at hS
      have hR := res_neg (E := E) hS (fun h => absurd h (by omega)) hT (by have := HX.out; omega) hx5
      exact HF.out S e2 c2 a2 w2 hB2 (Lib.grownBy_trans hG1 hG2) hR.1 (by have := hT.2.1; omega) hR.2 hf2)))
  clear hK2
  have g1 : decide ((0 : Int) < -(k : Int)) = false := decide_eq_false (by omega)
  have g2 : decide (-(k : Int) < 0) = true := decide_eq_true (by omega)
  have g2' : 0 < k := by omega
  have z1 : IntKind.i64.wrap 1 = 1 := by decide
  have z2 : (1 : Int) ≤ N := by omega
  have z3 : cap ≠ 1 := by omega
  have z4 : cap ≠ 0 := by omega
  have z5 : (k : Int) ≤ cap := by omega
  go_wp2
  go_still_tail 8, (by kernel_rfl)
  refine wpList_copy_blk rfl (.tmp 558) (.tmp 562) rfl g N c HB.out _ _ _ _ _ _ rfl rfl k (by show _ = min _ _; omega) (by omega) (by omega) ?_
  intro w2 hB2 hG2
  have f2 := hB2.out.free 0 (by omega)
  have k2 := hB2.out.cell 0 (by omega)
  have b5 : (0 : Int) < N := by omega
  go_wp2
  refine NX.out 0 e (upb (cpy c 1 0 k) 0 46) _ _ (hB2.out.set 0 46 (by omega)) (gb_set (gb_dl hG2.out) _ _) (by have := A3.out; omega) hr (by unfold upb; rw [if_pos rfl]) (fun j hj => ?_) (F9q_at _ _ _ _ _ _ _ rfl ⟨rfl, rfl, rfl, rfl, rfl, vi HX.out, vi (by rw [HLE.out]), trivial⟩)
  rw [A5.out]
  have := A3.out
  show upb (cpy c 1 0 k) 0 46 (0 + (1 + j)) = c (dpos k j)
  unfold upb cpy dpos
  rw [if_neg (by omega)]
  by_cases hjk : j < k
  · rw [if_pos (by omega), if_pos hjk]; congr 1; omega
  · rw [if_neg (by omega), if_neg hjk]; congr 1; omega
end Go.Proofs.YtblphppdfiipfaaDoor
