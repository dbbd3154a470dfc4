/- A decimal is shifted to the right. Conditions: none. -/
import Derived.Test.YtblphppdfiipfaaDoorCDecM
import Derived.WalkSmall
namespace Go.Proofs.YtblphppdfiipfaaDoor
open Go.RowKit
open Dc
set_option maxRecDepth 100000

def F88a (g k r x : Nat) : (Nat → Value) → Act := FG 130 [(0, .pointer (some ⟨g, 0, none⟩)), (1, .int .u64 k), (4, .int .i64 r), (5, .int .i64 0), (6, .int .u64 x)]
theorem F88a_lit (g k r x : Nat) (u : Nat → Value) : F88a g k r x u = { tmps := #[.pointer (some ⟨g, 0, none⟩), .int .u64 k, u 2, u 3, .int .i64 r, .int .i64 0, .int .u64 x, u 7, u 8, u 9, u 10, u 11, u 12, u 13, u 14, u 15, u 16, u 17, u 18, u 19, u 20, u 21, u 22, u 23, u 24, u 25, u 26, u 27, u 28, u 29, u 30, u 31, u 32, u 33, u 34, u 35, u 36, u 37, u 38, u 39, u 40, u 41, u 42, u 43, u 44, u 45, u 46, u 47, u 48, u 49, u 50, u 51, u 52, u 53, u 54, u 55, u 56, u 57, u 58, u 59, u 60, u 61, u 62, u 63, u 64, u 65, u 66, u 67, u 68, u 69, u 70, u 71, u 72, u 73, u 74, u 75, u 76, u 77, u 78, u 79, u 80, u 81, u 82, u 83, u 84, u 85, u 86, u 87, u 88, u 89, u 90, u 91, u 92, u 93, u 94, u 95, u 96, u 97, u 98, u 99, u 100, u 101, u 102, u 103, u 104, u 105, u 106, u 107, u 108, u 109, u 110, u 111, u 112, u 113, u 114, u 115, u 116, u 117, u 118, u 119, u 120, u 121, u 122, u 123, u 124, u 125, u 126, u 127, u 128, u 129], defers := [] } := by kernel_rfl
theorem F88a_at (g k r x : Nat) {L : List Value} (hl : L.length = 130) (hn : NmOk L [(0, .pointer (some ⟨g, 0, none⟩)), (1, .int .u64 k), (4, .int .i64 r), (5, .int .i64 0), (6, .int .u64 x)]) : (F88a g k r x fun k => (Act.mk L.toArray []).tmps.getD k undef) = { tmps := L.toArray, defers := [] } := FG_at hl hn
def F88b (g k r j x : Nat) (m : Int) : (Nat → Value) → Act := FG 130 [(0, .pointer (some ⟨g, 0, none⟩)), (1, .int .u64 k), (4, .int .i64 r), (5, .int .i64 j), (6, .int .u64 x), (8, .int .u64 m)]
theorem F88b_lit (g k r j x : Nat) (m : Int) (u : Nat → Value) : F88b g k r j x  m u = { tmps := #[.pointer (some ⟨g, 0, none⟩), .int .u64 k, u 2, u 3, .int .i64 r, .int .i64 j, .int .u64 x, u 7, .int .u64 m, u 9, u 10, u 11, u 12, u 13, u 14, u 15, u 16, u 17, u 18, u 19, u 20, u 21, u 22, u 23, u 24, u 25, u 26, u 27, u 28, u 29, u 30, u 31, u 32, u 33, u 34, u 35, u 36, u 37, u 38, u 39, u 40, u 41, u 42, u 43, u 44, u 45, u 46, u 47, u 48, u 49, u 50, u 51, u 52, u 53, u 54, u 55, u 56, u 57, u 58, u 59, u 60, u 61, u 62, u 63, u 64, u 65, u 66, u 67, u 68, u 69, u 70, u 71, u 72, u 73, u 74, u 75, u 76, u 77, u 78, u 79, u 80, u 81, u 82, u 83, u 84, u 85, u 86, u 87, u 88, u 89, u 90, u 91, u 92, u 93, u 94, u 95, u 96, u 97, u 98, u 99, u 100, u 101, u 102, u 103, u 104, u 105, u 106, u 107, u 108, u 109, u 110, u 111, u 112, u 113, u 114, u 115, u 116, u 117, u 118, u 119, u 120, u 121, u 122, u 123, u 124, u 125, u 126, u 127, u 128, u 129], defers := [] } := by kernel_rfl
theorem F88b_at (g k r j x : Nat) (m : Int) {L : List Value} (hl : L.length = 130) (hn : NmOk L [(0, .pointer (some ⟨g, 0, none⟩)), (1, .int .u64 k), (4, .int .i64 r), (5, .int .i64 j), (6, .int .u64 x), (8, .int .u64 m)]) : (F88b g k r j x  m fun k => (Act.mk L.toArray []).tmps.getD k undef) = { tmps := L.toArray, defers := [] } := FG_at hl hn
def F88c (g k j x : Nat) (m : Int) : (Nat → Value) → Act := FG 130 [(0, .pointer (some ⟨g, 0, none⟩)), (1, .int .u64 k), (5, .int .i64 j), (6, .int .u64 x), (8, .int .u64 m)]
theorem F88c_lit (g k j x : Nat) (m : Int) (u : Nat → Value) : F88c g k j x  m u = { tmps := #[.pointer (some ⟨g, 0, none⟩), .int .u64 k, u 2, u 3, u 4, .int .i64 j, .int .u64 x, u 7, .int .u64 m, u 9, u 10, u 11, u 12, u 13, u 14, u 15, u 16, u 17, u 18, u 19, u 20, u 21, u 22, u 23, u 24, u 25, u 26, u 27, u 28, u 29, u 30, u 31, u 32, u 33, u 34, u 35, u 36, u 37, u 38, u 39, u 40, u 41, u 42, u 43, u 44, u 45, u 46, u 47, u 48, u 49, u 50, u 51, u 52, u 53, u 54, u 55, u 56, u 57, u 58, u 59, u 60, u 61, u 62, u 63, u 64, u 65, u 66, u 67, u 68, u 69, u 70, u 71, u 72, u 73, u 74, u 75, u 76, u 77, u 78, u 79, u 80, u 81, u 82, u 83, u 84, u 85, u 86, u 87, u 88, u 89, u 90, u 91, u 92, u 93, u 94, u 95, u 96, u 97, u 98, u 99, u 100, u 101, u 102, u 103, u 104, u 105, u 106, u 107, u 108, u 109, u 110, u 111, u 112, u 113, u 114, u 115, u 116, u 117, u 118, u 119, u 120, u 121, u 122, u 123, u 124, u 125, u 126, u 127, u 128, u 129], defers := [] } := by kernel_rfl
theorem F88c_at (g k j x : Nat) (m : Int) {L : List Value} (hl : L.length = 130) (hn : NmOk L [(0, .pointer (some ⟨g, 0, none⟩)), (1, .int .u64 k), (5, .int .i64 j), (6, .int .u64 x), (8, .int .u64 m)]) : (F88c g k j x  m fun k => (Act.mk L.toArray []).tmps.getD k undef) = { tmps := L.toArray, defers := [] } := FG_at hl hn

set_option maxHeartbeats 2000000 in
theorem right_any (g V k : Nat) (dp : Int) (tr : Bool) (nd : Nat) (w : World) (hV : Big V) (hk1 : 1 ≤ k) (hk2 : k ≤ 60) (hdp : -100000 ≤ dp ∧ dp ≤ 100000) (h : Dst w g V dp tr nd) :
    Calls Tryd.prog 88 #[.pointer (some ⟨g, 0, none⟩), .int .u64 k] w (TrimPost w g (rV V k) (dp - ((r0 V k : Int) - 1)) (tr || rT V k)) := by
  have hn1 := h.nd1 hV
  obtain ⟨dc, hB, hR⟩ := h
  have hnd : nd ≤ 800 := hR.2.2
  obtain ⟨c0, c1, c2, c3⟩ := hB.cells
  have HB := Lib.hid hB; clear hB
  have HR := Lib.hid hR; clear hR
  have HV := Lib.hid hV; clear hV
  go_enter Tryd.func88, Tryd.ntmps88
  go_wp2
  rename_i KK hKK
  have HRest : ∀ (a' : Act) (w' : World), w' = w → (F88a g k (r0 V k) (pre V (r0 V k)) fun k => a'.tmps.getD k undef) = a' → KK a' w' := by
    rintro a' w' rfl he
    rw [← he]
    apply hKK
    clear hKK he
    generalize (fun k => a'.tmps.getD k undef) = u
    rw [F88a_lit]
    obtain ⟨q1, q2, q3, q4⟩ := r0_spec HV.out hk2
    have hfirst := r_first HV.out hk2
    obtain ⟨R, hRR⟩ : ∃ R, r0 V k = R := ⟨_, rfl⟩
    rw [hRR] at q1 q2 hfirst ⊢
    clear q3 q4
    have HRR := Lib.hid hRR; clear hRR
    obtain ⟨x, hx⟩ : ∃ x, pre V R = x := ⟨_, rfl⟩
    rw [hx]
    have HX := Lib.hid (hfirst.trans hx); clear hx hfirst
    have f1 := HB.out.free 801
    have hP : 2 ^ k ≤ 2 ^ 60 := Nat.pow_le_pow_right (by omega) hk2
    have hP1 := Nat.two_pow_pos k
    obtain ⟨P, hPP⟩ : ∃ P, 2 ^ k = P := ⟨_, rfl⟩
    obtain ⟨M, hM⟩ : ∃ M, P - 1 = M := ⟨_, rfl⟩
    rw [hPP] at hP hP1
    have m1 : IntKind.u64.wrap ((2 : Int) ^ k) = P := by
      rw [show (2 : Int) ^ k = ((2 ^ k : Nat) : Int) by rw [Int.natCast_pow]; rfl, hPP]; exact IntWalk.u64_in _ (by omega)
    have m2 : IntKind.u64.wrap ((P : Int) - 1) = M := by rw [show (P : Int) - 1 = M by omega]; exact IntWalk.u64_in _ (by omega)
    have hand : ∀ y : Nat, y < 2 ^ 64 → Go.bits .and .u64 (y : Int) (M : Int) = ((y % 2 ^ k : Nat) : Int) := by
      intro y hy
      rw [u64_and_nat y M (by omega) (by omega), ← hM, ← hPP, Nat.and_two_pow_sub_one_eq_mod]
    have HAND := Lib.hid hand; clear hand
    have HPP := Lib.hid hPP; clear hPP
    have HP := Lib.hid hP; clear hP
    clear hP1 hM
    go_wp2
    rename_i KK2 hKK2
    have hD0 : DB (w'.setCell ⟨g, 801, none⟩ (.int .i64 (dp - ((R : Int) - 1)))) g dc nd (dp - ((R : Int) - 1)) tr := DB.setDp HB.out _
    have hG0 : w'.grownBy (w'.setCell ⟨g, 801, none⟩ (.int .i64 (dp - ((R : Int) - 1)))) (some g) := gb_set (World.grownBy.refl _ _) _ _
    generalize w'.setCell ⟨g, 801, none⟩ (.int .i64 (dp - ((R : Int) - 1))) = W at hD0 hG0 ⊢
    clear c0 c1 c2 c3 f1 m1 m2
    have HD0 := Lib.hid hD0; clear hD0
    have HG0 := Lib.hid hG0; clear hG0
    have hyb : ∀ r, pre V r % (2 ^ k * 10) < 2 ^ 60 * 10 := fun r => Nat.lt_of_lt_of_le (Nat.mod_lt _ (Nat.mul_pos (Nat.two_pow_pos k) (by omega))) (Nat.mul_le_mul_right _ (by rw [HPP.out]; exact HP.out))
    have HYB := Lib.hid hyb; clear hyb
    have HRest : ∀ (j r : Nat) (a' : Act) (w1 : World), (r = R + j ∧ nd ≤ r ∧ j ≤ 800 ∧ ∃ dc', DB w1 g dc' nd (dp - ((R : Int) - 1)) tr ∧ (∀ i, i < j → dc' i = 48 + rD V k i) ∧ w'.grownBy w1 (some g)) → (F88b g k r j (pre V r % (2 ^ k * 10)) M fun k => a'.tmps.getD k undef) = a' → KK2 a' w1 := by
      rintro j r a' w1 ⟨hr, hge, hj, dc1, hB1, hd1, hg1⟩ he
      rw [← he]
      apply hKK2
      clear hKK2 he
      generalize (fun k => a'.tmps.getD k undef) = u1
      rw [F88b_lit]
      have HB1 := Lib.hid hB1; clear hB1
      have HD1 := Lib.hid hd1; clear hd1
      have HG1 := Lib.hid hg1; clear hg1
      have HR1 := Lib.hid hr; clear hr
      have HGE := Lib.hid hge; clear hge
      obtain ⟨y, hy⟩ : ∃ y, pre V r % (2 ^ k * 10) = y := ⟨_, rfl⟩
      rw [hy]
      have HY := Lib.hid hy; clear hy
      go_wp2
      rename_i KK3 hKK3
      -- the end: nd := w, trim
      have HR4 : ∀ (j2 v : Nat) (a' : Act) (w2 : World), (v ≤ 800 ∧ (j2 < 800 → v = j2) ∧ (800 ≤ j2 → v = 800) ∧ j2 ≤ 900 ∧ (∀ i, j2 ≤ i → rD V k i = 0) ∧ ∃ dc2 tr2, DB w2 g dc2 nd (dp - ((R : Int) - 1)) tr2 ∧ (∀ i, i < v → dc2 i = 48 + rD V k i) ∧ (tr2 = true ↔ tr = true ∨ ∃ i, N8 ≤ i ∧ i < j2 ∧ rD V k i ≠ 0) ∧ w'.grownBy w2 (some g)) →
          (F88c g k v 0 M fun k => a'.tmps.getD k undef) = a' → KK3 a' w2 := by
        rintro j2 v a' w2 ⟨hv, hv1, hv2, hj9, hz, dc2, tr2, hB2, hd2, ht2, hg2⟩ he
        rw [← he]
        apply hKK3
        clear hKK3 he
        generalize (fun k => a'.tmps.getD k undef) = u2
        rw [F88c_lit]
        have e8 := N8_eq
        have htr : tr2 = (tr || rT V k) := by
          rw [Bool.eq_iff_iff, ht2, Bool.or_eq_true, rT_iff (J := j2) (by omega) hz]
        subst htr
        have f0 := hB2.free 800
        have hD : Dst (w2.setCell ⟨g, 800, none⟩ (.int .i64 v)) g (rV V k) (dp - ((R : Int) - 1)) (tr || rT V k) v :=
          ⟨dc2, DB.setNd hB2 v, fun i hi => by rw [hd2 i hi, rV_dgt HV.out hk2 (by omega)], fun i hi => by
            by_cases h8 : i < N8
            · rw [rV_dgt HV.out hk2 h8]
              refine hz i ?_
              by_cases h : j2 < 800
              · have := hv1 h; omega
              · have := hv2 (by omega); omega
            · exact dgt_ge _ _ (by omega), by omega⟩
        obtain ⟨_, c0, _⟩ : ∃ x, w2.cell? ⟨g, 800, none⟩ = some x ∧ True := ⟨_, hB2.cells.1, trivial⟩
        have HD2 := Lib.hid hD; clear hD
        have HB2 := Lib.hid hB2; clear hB2
        have HG2 := Lib.hid hg2; clear hg2
        clear hd2 ht2 hz hv1 hv2
        go_wp2_with (fail)
        refine (trim_any g (rV V k) _ _ v _ (rV_big HV.out hk2) HD2.out).mono ?_
        rintro e w3 ⟨rfl, nd3, h1, h2, h3⟩
        have H1 := Lib.hid h1; clear h1
        have H2 := Lib.hid h2; clear h2
        have H3 := Lib.hid (Lib.grownBy_trans (gb_set HG2.out _ _) h3); clear h3
        go_wp2
        go_end0
        exact ⟨rfl, nd3, H1.out, H2.out, H3.out⟩
      have HR4 := Lib.hid HR4
      clear hKK3
      have e8 := N8_eq
      refine wp_loop_x (fun x : Nat × Nat => F88c g k x.2 (pre V (R + x.1) % (2 ^ k * 10)) M) (fun n x w2 => n = j + (k + 1) - x.1 ∧ j ≤ x.1 ∧ x.1 ≤ j + (k + 1) ∧ x.2 ≤ 800 ∧ (x.1 < 800 → x.2 = x.1) ∧ (800 ≤ x.1 → x.2 = 800) ∧ ∃ dc2 tr2, DB w2 g dc2 nd (dp - ((R : Int) - 1)) tr2 ∧ (∀ i, i < x.2 → dc2 i = 48 + rD V k i) ∧ (tr2 = true ↔ tr = true ∨ ∃ i, N8 ≤ i ∧ i < x.1 ∧ rD V k i ≠ 0) ∧ w'.grownBy w2 (some g)) (k + 1) (j, j)
        ⟨by show k + 1 = j + (k + 1) - j; omega, Nat.le_refl _, by show j ≤ _; omega, by show j ≤ 800; omega, fun _ => rfl, fun h => by have h : 800 ≤ j := h; show j = 800; omega, dc1, tr, HB1.out, HD1.out, ⟨fun h => .inl h, fun h => h.elim id fun ⟨i, a, b, _⟩ => absurd (show i < j from b) (by omega)⟩, HG1.out⟩ (F88c_at _ _ _ _ _ rfl ⟨rfl, rfl, rfl, by show _ = Value.int .u64 ((pre V (R + j) % (2 ^ k * 10) : Nat) : Int); rw [← HR1.out, HY.out]; rfl, rfl, trivial⟩) ?_
      rintro n ⟨j2, v⟩ u3 w2 hrel K2 hK2
      obtain ⟨hn, hj1, hj2, hv, hv1, hv2, dc2, tr2, hB2, hd2, ht2, hg2⟩ := hrel
      simp only at hn hj1 hj2 hv hv1 hv2 hd2 ht2
      have HN := Lib.hid hn; clear hn
      have HK2 := Lib.hid hK2; clear hK2
      have HD2 := Lib.hid hd2; clear hd2
      have HT2 := Lib.hid ht2; clear ht2
      have HG2 := Lib.hid hg2; clear hg2
      have hpast : ∀ i, R + j ≤ i → dgt V i = 0 := fun i hi => HR.out.2.1 i (by have := HR1.out; have := HGE.out; omega)
      have HPA := Lib.hid hpast; clear hpast
      have st := r_step V k (R + j2)
      rw [HPA.out _ (by omega), Nat.add_zero] at st
      have dg := r_dig V k (R + j2)
      have hD : pre V (R + j2) / 2 ^ k % 10 = rD V k j2 := by unfold rD; rw [HRR.out]
      rw [hD] at dg
      have hD10 : rD V k j2 < 10 := Nat.mod_lt _ (by omega)
      have hyb := HYB.out (R + j2)
      have hyb2 := HYB.out (R + j2 + 1)
      obtain ⟨y3, hy⟩ : ∃ y, pre V (R + j2) % (2 ^ k * 10) = y := ⟨_, rfl⟩
      rw [hy] at st dg hyb
      rw [F88c_lit]
      show Code.wp _ _ _ { tmps := _, defers := _ } _
      rw [hy]
      by_cases hy0 : y3 = 0
      · subst hy0
        have hz : ∀ i, j2 ≤ i → rD V k i = 0 := by
          intro i hi
          unfold rD
          rw [HRR.out]
          have := r_done (V := V) (k := k) (r := R + j2) hy (fun i hi => HPA.out i (by omega)) (i - j2)
          rw [show R + j2 + (i - j2) = R + i by omega] at this
          exact this
        have HZ := Lib.hid hz; clear hz
        have HV1 := Lib.hid hv1; clear hv1
        have HV2 := Lib.hid hv2; clear hv2
        have HY3 := Lib.hid hy; clear hy
        have HB2 := Lib.hid hB2; clear hB2
        clear st dg hyb hyb2 hD hD10
        go_wp2
        exact HR4.out j2 v _ _ ⟨hv, HV1.out, HV2.out, by omega, HZ.out, dc2, tr2, HB2.out, HD2.out, HT2.out, HG2.out⟩ (F88c_at _ _ _ _ _ rfl ⟨rfl, rfl, rfl, rfl, rfl, trivial⟩)
      · have hlt : j2 < j + (k + 1) := by
          refine Nat.lt_of_not_le fun hle => hy0 ?_
          have e : j2 = j + (k + 1) := by omega
          have := r_end (V := V) (k := k) (r := R + j) (fun i hi => HPA.out i hi)
          rw [Nat.add_assoc, ← e, hy] at this
          exact this
        have g1 : 0 < y3 := Nat.pos_of_ne_zero hy0
        obtain ⟨z, hz⟩ : ∃ z, y3 % 2 ^ k = z := ⟨_, rfl⟩
        obtain ⟨y2, hy2⟩ : ∃ z, pre V (R + j2 + 1) % (2 ^ k * 10) = z := ⟨_, rfl⟩
        obtain ⟨D, hDD⟩ : ∃ D, rD V k j2 = D := ⟨_, rfl⟩
        rw [hz, hy2] at st
        rw [hDD] at dg hD10
        rw [hy2] at hyb2
        have wd : (y3 : Int) / 2 ^ k = D := by
          rw [show (y3 : Int) / 2 ^ k = ((y3 / 2 ^ k : Nat) : Int) by rw [Int.natCast_ediv, Int.natCast_pow]; rfl, dg]
        have wa : Go.bits .and .u64 (y3 : Int) (M : Int) = (z : Int) := by rw [HAND.out y3 (by omega), hz]
        have hz2 : z ≤ y3 := by rw [← hz]; exact Nat.mod_le _ _
        have w5 : IntKind.u64.wrap ((z : Int) * 10) = y2 := by rw [show (z : Int) * 10 = y2 by omega]; exact IntWalk.u64_in _ (by omega)
        have HY2 := Lib.hid hy2; clear hy2
        have HDD := Lib.hid hDD; clear hDD
        have HY3 := Lib.hid hy; clear hy
        clear st dg hyb hyb2 hD hz hz2 hy0
        have hRj : R + (j2 + 1) = R + j2 + 1 := by omega
        have HRJ := Lib.hid hRj; clear hRj
        by_cases hj8 : j2 < 800
        · obtain rfl : v = j2 := hv1 hj8
          clear hv1 hv2
          have cj := hB2.cell hj8
          have fj := hB2.free v
          have w1 : IntKind.u64.wrap ((D : Int) + 48) = (48 + D : Nat) := by rw [show (D : Int) + 48 = (48 + D : Nat) by omega]; exact IntWalk.u64_in _ (by omega)
          have w2' : IntKind.u8.wrap ((48 + D : Nat) : Int) = (48 + D : Nat) := IntWalk.u8_in _ (by omega)
          have w7 : IntKind.i64.wrap ((v : Int) + 1) = (v : Int) + 1 := IntWalk.i64_in _ (by omega)
          obtain ⟨e, he⟩ : ∃ e, 48 + D = e := ⟨_, rfl⟩
          rw [he] at w1 w2'
          have HE := Lib.hid he; clear he
          have HB2 := Lib.hid hB2; clear hB2
          clear hD10
          go_wp2
          refine HK2.out (j + (k + 1) - (v + 1)) (v + 1, v + 1) _ _ (by have := HN.out; omega) ⟨rfl, by show j ≤ v + 1; omega, by show v + 1 ≤ _; omega, by show v + 1 ≤ 800; omega, fun _ => rfl, fun h => by have h : 800 ≤ v + 1 := h; show v + 1 = 800; omega, upd dc2 v e, tr2, DB.set HB2.out hj8 e, ?_, ?_, gb_set HG2.out _ _⟩ (F88c_at _ _ _ _ _ rfl ⟨rfl, rfl, rfl, by show _ = Value.int .u64 ((pre V (R + (v + 1)) % (2 ^ k * 10) : Nat) : Int); rw [HRJ.out, HY2.out]; rfl, rfl, trivial⟩)
          · intro i hi
            have hi : i < v + 1 := hi
            show (if i = v then e else dc2 i) = _
            by_cases e1 : i = v
            · rw [if_pos e1, e1, HDD.out, HE.out]
            · rw [if_neg e1]; exact HD2.out i (by omega)
          · rw [HT2.out]
            constructor
            · rintro (h | ⟨i, a, b, c⟩)
              · exact .inl h
              · exact absurd b (by omega)
            · rintro (h | ⟨i, a, b, c⟩)
              · exact .inl h
              · have b : i < v + 1 := b
                exact absurd b (by omega)
        · obtain rfl : v = 800 := hv2 (by omega)
          clear hv1 hv2
          have f3 := hB2.free 803
          have c3 := hB2.cells.2.2.2
          by_cases hD0 : D = 0
          · subst hD0
            have HB2 := Lib.hid hB2; clear hB2
            clear hD10
            go_wp2
            refine HK2.out (j + (k + 1) - (j2 + 1)) (j2 + 1, 800) _ _ (by have := HN.out; omega) ⟨rfl, by show j ≤ j2 + 1; omega, by show j2 + 1 ≤ _; omega, Nat.le_refl _, fun h => absurd (show j2 + 1 < 800 from h) (by omega), fun _ => rfl, dc2, tr2, HB2.out, HD2.out, ?_, HG2.out⟩ (F88c_at _ _ _ _ _ rfl ⟨rfl, rfl, rfl, by show _ = Value.int .u64 ((pre V (R + (j2 + 1)) % (2 ^ k * 10) : Nat) : Int); rw [HRJ.out, HY2.out]; rfl, rfl, trivial⟩)
            rw [HT2.out]
            constructor
            · rintro (h | ⟨i, a, b, c⟩)
              · exact .inl h
              · exact .inr ⟨i, a, by show i < j2 + 1; omega, c⟩
            · rintro (h | ⟨i, a, b, c⟩)
              · exact .inl h
              · have b : i < j2 + 1 := b
                by_cases e1 : i = j2
                · subst e1; exact absurd HDD.out c
                · exact .inr ⟨i, a, by omega, c⟩
          · have g2 : 0 < D := Nat.pos_of_ne_zero hD0
            have HB2 := Lib.hid hB2; clear hB2
            have HD00 := Lib.hid hD0; clear hD0
            clear hD10
            go_wp2
            refine HK2.out (j + (k + 1) - (j2 + 1)) (j2 + 1, 800) _ _ (by have := HN.out; omega) ⟨rfl, by show j ≤ j2 + 1; omega, by show j2 + 1 ≤ _; omega, Nat.le_refl _, fun h => absurd (show j2 + 1 < 800 from h) (by omega), fun _ => rfl, dc2, true, DB.setTr HB2.out true, HD2.out, ?_, gb_set HG2.out _ _⟩ (F88c_at _ _ _ _ _ rfl ⟨rfl, rfl, rfl, by show _ = Value.int .u64 ((pre V (R + (j2 + 1)) % (2 ^ k * 10) : Nat) : Int); rw [HRJ.out, HY2.out]; rfl, rfl, trivial⟩)
            refine ⟨fun _ => .inr ⟨j2, by omega, by show j2 < j2 + 1; omega, by rw [HDD.out]; exact HD00.out⟩, fun _ => rfl⟩
    have HRest := Lib.hid HRest
    clear hKK2
    have hmax : ∀ r j, r = R + j → r ≤ nd ∨ j = 0 → j ≤ 800 := fun r j h1 h2 => by omega
    have HM := Lib.hid hmax; clear hmax
    refine wp_loop_x (fun x : Nat × Nat => F88b g k x.2 x.1 (pre V x.2 % (2 ^ k * 10)) M) (fun n x w1 => n = nd - x.2 ∧ x.2 = R + x.1 ∧ (x.2 ≤ nd ∨ x.1 = 0) ∧ ∃ dc', DB w1 g dc' nd (dp - ((R : Int) - 1)) tr ∧ (∀ i, i < x.1 → dc' i = 48 + rD V k i) ∧ (∀ i, x.1 ≤ i → dc' i = dc i) ∧ w'.grownBy w1 (some g)) (nd - R) (0, R)
      ⟨rfl, rfl, .inr rfl, dc, HD0.out, fun i hi => absurd hi (by simp), fun i _ => rfl, HG0.out⟩ (F88b_at _ _ _ _ _ _ rfl ⟨rfl, rfl, rfl, rfl, by show _ = Value.int .u64 ((pre V R % (2 ^ k * 10) : Nat) : Int); rw [HX.out]; rfl, rfl, trivial⟩) ?_
    rintro n ⟨j, r⟩ u2 w2 hrel K2 hK2
    obtain ⟨hn, hr, hjn, dc1, hB1, hd1, hs1, hg1⟩ := hrel
    simp only at hn hr hjn hd1 hs1
    have HN := Lib.hid hn; clear hn
    have HK2 := Lib.hid hK2; clear hK2
    have hj8 := HM.out r j hr hjn
    have HR1 := Lib.hid hr
    have hjr : j < r := by omega
    clear hr
    have HJN := Lib.hid hjn; clear hjn
    obtain ⟨c0, c1, c2, c3⟩ := hB1.cells
    have fj := hB1.free j
    have HD1 := Lib.hid hd1; clear hd1
    have HS1 := Lib.hid hs1; clear hs1
    have HG1 := Lib.hid hg1; clear hg1
    rw [F88b_lit]
    by_cases hlt : r < nd
    · have cj := hB1.cell (show j < 800 by omega)
      have cr := hB1.cell (show r < 800 by omega)
      rw [HS1.out r (by omega), HR.out.1 r hlt] at cr
      have HB1 := Lib.hid hB1; clear hB1
      have st := r_step V k r
      have dg := r_dig V k r
      have hD : pre V r / 2 ^ k % 10 = rD V k j := by unfold rD; rw [HRR.out, ← HR1.out]
      rw [hD] at dg
      have hD10 : rD V k j < 10 := Nat.mod_lt _ (by omega)
      have hyb := HYB.out r
      have hyb2 := HYB.out (r + 1)
      obtain ⟨y, hy⟩ : ∃ y, pre V r % (2 ^ k * 10) = y := ⟨_, rfl⟩
      obtain ⟨z, hz⟩ : ∃ z, y % 2 ^ k = z := ⟨_, rfl⟩
      obtain ⟨y2, hy2⟩ : ∃ z, pre V (r + 1) % (2 ^ k * 10) = z := ⟨_, rfl⟩
      obtain ⟨D, hDD⟩ : ∃ D, rD V k j = D := ⟨_, rfl⟩
      obtain ⟨c, hc⟩ : ∃ c, 48 + dgt V r = c := ⟨_, rfl⟩
      rw [hy] at hyb
      rw [hy2] at hyb2
      rw [hy, hz, hy2] at st
      rw [hy, hDD] at dg
      rw [hDD] at hD10
      rw [hc] at cr
      have hdl := dgt_lt V r
      have wd : (y : Int) / 2 ^ k = D := by
        rw [show (y : Int) / 2 ^ k = ((y / 2 ^ k : Nat) : Int) by rw [Int.natCast_ediv, Int.natCast_pow]; rfl, dg]
      have wa : Go.bits .and .u64 (y : Int) (M : Int) = (z : Int) := by rw [HAND.out y (by omega), hz]
      have w0 : IntKind.u64.wrap (c : Int) = (c : Int) := IntWalk.u64_in _ (by omega)
      have w1 : IntKind.u64.wrap ((D : Int) + 48) = (48 + D : Nat) := by rw [show (D : Int) + 48 = (48 + D : Nat) by omega]; exact IntWalk.u64_in _ (by omega)
      have w2' : IntKind.u8.wrap ((48 + D : Nat) : Int) = (48 + D : Nat) := IntWalk.u8_in _ (by omega)
      have hz2 : z ≤ y := by rw [← hz]; exact Nat.mod_le _ _
      have w3 : IntKind.u64.wrap ((z : Int) * 10) = (z : Int) * 10 := IntWalk.u64_in _ (by omega)
      have w4 : IntKind.u64.wrap ((z : Int) * 10 + c) = (z : Int) * 10 + c := IntWalk.u64_in _ (by omega)
      have w5 : IntKind.u64.wrap ((z : Int) * 10 + c - 48) = y2 := by rw [show (z : Int) * 10 + c - 48 = y2 by omega]; exact IntWalk.u64_in _ (by omega)
      have w6 : IntKind.i64.wrap ((r : Int) + 1) = (r : Int) + 1 := IntWalk.i64_in _ (by omega)
      have w7 : IntKind.i64.wrap ((j : Int) + 1) = (j : Int) + 1 := IntWalk.i64_in _ (by omega)
      have w8 : (r : Int) < 800 := by omega
      have w9 : (j : Int) < 800 := by omega
      obtain ⟨e, he⟩ : ∃ e, 48 + D = e := ⟨_, rfl⟩
      rw [he] at w1 w2'
      rw [hy]
      have HY2 := Lib.hid hy2; clear hy2
      have HDD := Lib.hid hDD; clear hDD
      have HE := Lib.hid he; clear he
      clear st dg hD hD10 hyb hyb2 hy hz hz2 hc hdl
      go_wp2
      refine HK2.out (nd - (r + 1)) (j + 1, r + 1) _ _ (by have := HN.out; omega) ⟨rfl, by show r + 1 = R + (j + 1); have := HR1.out; omega, .inl (by show r + 1 ≤ nd; omega), upd dc1 j e, DB.set HB1.out (by omega) e, ?_, ?_, gb_set HG1.out _ _⟩ (F88b_at _ _ _ _ _ _ rfl ⟨rfl, rfl, rfl, rfl, by show _ = Value.int .u64 ((pre V (r + 1) % (2 ^ k * 10) : Nat) : Int); rw [HY2.out]; rfl, rfl, trivial⟩)
      · intro i hi
        have hi : i < j + 1 := hi
        show (if i = j then e else dc1 i) = _
        by_cases e1 : i = j
        · rw [if_pos e1, e1, HDD.out, HE.out]
        · rw [if_neg e1]; exact HD1.out i (by omega)
      · intro i hi
        have hi : j + 1 ≤ i := hi
        show (if i = j then e else dc1 i) = _
        rw [if_neg (by omega)]; exact HS1.out i (by omega)
    · obtain ⟨y, hy⟩ : ∃ y, pre V r % (2 ^ k * 10) = y := ⟨_, rfl⟩
      rw [hy]
      have HY := Lib.hid hy; clear hy
      have HB1 := Lib.hid hB1; clear hB1
      go_wp2
      exact HRest.out j r _ _ ⟨HR1.out, by omega, hj8, dc1, HB1.out, HD1.out, HG1.out⟩ (F88b_at _ _ _ _ _ _ rfl ⟨rfl, rfl, rfl, rfl, by rw [HY.out]; rfl, rfl, trivial⟩)
  have HRest := Lib.hid HRest
  clear hKK
  refine wp_loop_x (fun r : Nat => F88a g k r (pre V r)) (fun n r w' => n = 30 - r ∧ r ≤ 20 ∧ r ≤ nd ∧ (∀ i, i < r → pre V i < 2 ^ k) ∧ w' = w) 30 0 ⟨by omega, by omega, by omega, fun j hj => absurd hj (by omega), rfl⟩ (F88a_at _ _ _ _ rfl ⟨rfl, rfl, rfl, rfl, by rw [pre_zero HV.out.2]; rfl, trivial⟩) ?_
  intro n r u wr hrel K2 hK2
  obtain ⟨hn, hr, hr2, hl, rfl⟩ := hrel
  have HN := Lib.hid hn; clear hn
  have HK2 := Lib.hid hK2; clear hK2
  have HL := Lib.hid hl; clear hl
  rw [F88a_lit]
  obtain ⟨x, hx⟩ : ∃ x, pre V r = x := ⟨_, rfl⟩
  rw [hx]
  by_cases hlt : x < 2 ^ k
  · have g1 : ((x : Int) / 2 ^ k == 0) = true := by
      rw [show (x : Int) / 2 ^ k = ((x / 2 ^ k : Nat) : Int) by rw [Int.natCast_ediv, Int.natCast_pow]; rfl, Nat.div_eq_of_lt hlt]; rfl
    have hx60 : x < 2 ^ 60 := Nat.lt_of_lt_of_le hlt (Nat.pow_le_pow_right (by omega) hk2)
    have hr20 : r < 20 := by
      refine Nat.lt_of_not_le fun hle => ?_
      have e : r = 20 := by omega
      have := two60 hk2
      have := show 10 ^ 19 ≤ pre V 20 from HV.out.pre_ge 19
      rw [e] at hx
      omega
    have HR2 : Hid (r + 1 ≤ 20) := Lib.hid hr20
    have HLT := Lib.hid hlt; clear hlt
    by_cases hge : r < nd
    · have hd := dgt_lt V r
      have cr : wr.cell? ⟨g, r, none⟩ = some (.int .u8 (48 + dgt V r : Nat)) := by
        have := HB.out.cell (show r < 800 by omega)
        rw [HR.out.1 r hge] at this
        exact this
      have hp := pre_succ V r
      rw [hx] at hp
      obtain ⟨y, hy⟩ : ∃ y, pre V (r + 1) = y := ⟨_, rfl⟩
      obtain ⟨c, hc⟩ : ∃ c, 48 + dgt V r = c := ⟨_, rfl⟩
      rw [hc] at cr
      rw [hy] at hp
      have w0 : IntKind.u64.wrap (c : Int) = (c : Int) := IntWalk.u64_in _ (by omega)
      have w1 : IntKind.u64.wrap ((x : Int) * 10) = (x : Int) * 10 := IntWalk.u64_in _ (by omega)
      have w2 : IntKind.u64.wrap ((x : Int) * 10 + c) = (x : Int) * 10 + c := IntWalk.u64_in _ (by omega)
      have w3 : IntKind.u64.wrap ((x : Int) * 10 + c - 48) = y := by rw [show (x : Int) * 10 + c - 48 = y by omega]; exact IntWalk.u64_in _ (by omega)
      have w4 : IntKind.i64.wrap ((r : Int) + 1) = (r : Int) + 1 := IntWalk.i64_in _ (by omega)
      have w5 : (r : Int) < 800 := by omega
      have HX := Lib.hid hx; clear hx
      have HY := Lib.hid hy; clear hy
      clear hx60 hp hd hc
      go_wp2
      exact HK2.out (30 - (r + 1)) (r + 1) _ _ (by have := HN.out; omega) ⟨rfl, by have := HR2.out; omega, by omega, fun j hj => by
        by_cases e : j = r
        · subst e; rw [HX.out]; exact HLT.out
        · exact HL.out j (by omega), rfl⟩ (F88a_at _ _ _ _ rfl ⟨rfl, rfl, rfl, rfl, by rw [HY.out]; rfl, trivial⟩)
    · have hnd2 : r = nd := by omega
      have hx1 : 1 ≤ x := by
        rw [← hx, hnd2]
        have := HV.out.pre_ge (nd - 1)
        rw [show nd - 1 + 1 = nd by omega] at this
        have := p10 (nd - 1)
        omega
      have g2 : ((x : Int) == 0) = false := beq_false_of_ne (by omega)
      have HX := Lib.hid hx; clear hx
      clear hx60
      have HND := Lib.hid hnd2; clear hnd2
      have HGE := Lib.hid hge; clear hge
      have g3 : nd ≤ r := by have := HND.out; omega
      go_wp2
      clear g1 g2 g3
      refine wp_loop_x (fun r' : Nat => F88a g k r' (pre V r')) (fun n r' w' => n = 30 - r' ∧ r ≤ r' ∧ r' ≤ 20 ∧ (∀ i, i < r' → pre V i < 2 ^ k) ∧ w' = wr) (30 - r) r ⟨rfl, Nat.le_refl _, hr, HL.out, rfl⟩ (F88a_at _ _ _ _ rfl ⟨rfl, rfl, rfl, rfl, by rw [HX.out]; rfl, trivial⟩) ?_
      intro n2 r2 u2 wr2 hrel K3 hK3
      obtain ⟨hn2, hr2', hr3, hl2, rfl⟩ := hrel
      have HN2 := Lib.hid hn2; clear hn2
      have HK3 := Lib.hid hK3; clear hK3
      have HL2 := Lib.hid hl2; clear hl2
      rw [F88a_lit]
      obtain ⟨x2, hx2⟩ : ∃ x, pre V r2 = x := ⟨_, rfl⟩
      rw [hx2]
      by_cases hlt : x2 < 2 ^ k
      · have g1 : ((x2 : Int) / 2 ^ k == 0) = true := by
          rw [show (x2 : Int) / 2 ^ k = ((x2 / 2 ^ k : Nat) : Int) by rw [Int.natCast_ediv, Int.natCast_pow]; rfl, Nat.div_eq_of_lt hlt]; rfl
        have hx60 : x2 < 2 ^ 60 := Nat.lt_of_lt_of_le hlt (Nat.pow_le_pow_right (by omega) hk2)
        have hr20 : r2 < 20 := by
          refine Nat.lt_of_not_le fun hle => ?_
          have e : r2 = 20 := by omega
          have := two60 hk2
          have := show 10 ^ 19 ≤ pre V 20 from HV.out.pre_ge 19
          rw [e] at hx2
          omega
        have HLT2 := Lib.hid hlt; clear hlt
        have hp := pre_succ V r2
        rw [HR.out.2.1 r2 (by have := HND.out; omega), hx2] at hp
        obtain ⟨y, hy⟩ : ∃ y, pre V (r2 + 1) = y := ⟨_, rfl⟩
        rw [hy] at hp
        have w1 : IntKind.u64.wrap ((x2 : Int) * 10) = (y : Int) := by rw [show (x2 : Int) * 10 = y by omega]; exact IntWalk.u64_in _ (by omega)
        have w4 : IntKind.i64.wrap ((r2 : Int) + 1) = (r2 : Int) + 1 := IntWalk.i64_in _ (by omega)
        have HX2 := Lib.hid hx2; clear hx2
        have HY := Lib.hid hy; clear hy
        have HR20 := HR2.out
        clear hp hx60
        go_wp2
        exact HK3.out (30 - (r2 + 1)) (r2 + 1) _ _ (by have := HN2.out; omega) ⟨rfl, by omega, by omega, fun j hj => by
          by_cases e : j = r2
          · subst e; rw [HX2.out]; exact HLT2.out
          · exact HL2.out j (by omega), rfl⟩ (F88a_at _ _ _ _ rfl ⟨rfl, rfl, rfl, rfl, by rw [HY.out]; rfl, trivial⟩)
      · have g1 : ((x2 : Int) / 2 ^ k == 0) = false := by
          refine beq_false_of_ne fun e => ?_
          rw [show (x2 : Int) / 2 ^ k = ((x2 / 2 ^ k : Nat) : Int) by rw [Int.natCast_ediv, Int.natCast_pow]; rfl] at e
          have := Nat.div_pos (Nat.le_of_not_lt hlt) (Nat.two_pow_pos k)
          omega
        have HE : Hid (r2 = r0 V k) := Lib.hid (r0_uniq HV.out hk2 (by rw [hx2]; exact Nat.le_of_not_lt hlt) HL2.out)
        have HX2 := Lib.hid hx2; clear hx2
        clear hlt
        go_wp2
        exact HRest.out _ _ rfl (F88a_at _ _ _ _ rfl ⟨rfl, rfl, by rw [← HE.out]; rfl, rfl, by rw [← HE.out, HX2.out]; rfl, trivial⟩)
  · have g1 : ((x : Int) / 2 ^ k == 0) = false := by
      refine beq_false_of_ne fun e => ?_
      rw [show (x : Int) / 2 ^ k = ((x / 2 ^ k : Nat) : Int) by rw [Int.natCast_ediv, Int.natCast_pow]; rfl] at e
      have := Nat.div_pos (Nat.le_of_not_lt hlt) (Nat.two_pow_pos k)
      omega
    have HE : Hid (r = r0 V k) := Lib.hid (r0_uniq HV.out hk2 (by rw [hx]; exact Nat.le_of_not_lt hlt) HL.out)
    clear hlt
    have HX := Lib.hid hx; clear hx
    go_wp2
    exact HRest.out _ _ rfl (F88a_at _ _ _ _ rfl ⟨rfl, rfl, by rw [← HE.out]; rfl, rfl, by rw [← HE.out, HX.out]; rfl, trivial⟩)
end Go.Proofs.YtblphppdfiipfaaDoor
