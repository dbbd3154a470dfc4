/- A decimal is shifted to the left, and rounded. Conditions: none. -/
import Derived.Test.YtblphppdfiipfaaDoorCDecM
import Derived.WalkSmall
import Derived.Test.YtblphppdfiipfaaDoorCDecR
import Derived.Test.YtblphppdfiipfaaDoorCDigits
namespace Go.Proofs.YtblphppdfiipfaaDoor
open Go.RowKit
open Dc
set_option maxRecDepth 100000

def F87a (g k dt : Nat) : (Nat → Value) → Act := FG 137 [(0, .pointer (some ⟨g, 0, none⟩)), (1, .int .u64 k), (4, .int .i64 dt)]
theorem F87a_lit (g k dt : Nat) (u : Nat → Value) : F87a g k dt u = { tmps := #[.pointer (some ⟨g, 0, none⟩), .int .u64 k, u 2, u 3, .int .i64 dt, u 5, u 6, u 7, u 8, u 9, u 10, u 11, u 12, u 13, u 14, u 15, u 16, u 17, u 18, u 19, u 20, u 21, u 22, u 23, u 24, u 25, u 26, u 27, u 28, u 29, u 30, u 31, u 32, u 33, u 34, u 35, u 36, u 37, u 38, u 39, u 40, u 41, u 42, u 43, u 44, u 45, u 46, u 47, u 48, u 49, u 50, u 51, u 52, u 53, u 54, u 55, u 56, u 57, u 58, u 59, u 60, u 61, u 62, u 63, u 64, u 65, u 66, u 67, u 68, u 69, u 70, u 71, u 72, u 73, u 74, u 75, u 76, u 77, u 78, u 79, u 80, u 81, u 82, u 83, u 84, u 85, u 86, u 87, u 88, u 89, u 90, u 91, u 92, u 93, u 94, u 95, u 96, u 97, u 98, u 99, u 100, u 101, u 102, u 103, u 104, u 105, u 106, u 107, u 108, u 109, u 110, u 111, u 112, u 113, u 114, u 115, u 116, u 117, u 118, u 119, u 120, u 121, u 122, u 123, u 124, u 125, u 126, u 127, u 128, u 129, u 130, u 131, u 132, u 133, u 134, u 135, u 136], defers := [] } := by kernel_rfl
theorem F87a_at (g k dt : Nat) {L : List Value} (hl : L.length = 137) (hn : NmOk L [(0, .pointer (some ⟨g, 0, none⟩)), (1, .int .u64 k), (4, .int .i64 dt)]) : (F87a g k dt fun k => (Act.mk L.toArray []).tmps.getD k undef) = { tmps := L.toArray, defers := [] } := FG_at hl hn
def F87b (g k dt : Nat) (r : Int) (v x : Nat) : (Nat → Value) → Act := FG 137 [(0, .pointer (some ⟨g, 0, none⟩)), (1, .int .u64 k), (4, .int .i64 dt), (5, .int .i64 r), (6, .int .i64 v), (7, .int .u64 x)]
theorem F87b_lit (g k dt : Nat) (r : Int) (v x : Nat) (u : Nat → Value) : F87b g k dt  r  v x u = { tmps := #[.pointer (some ⟨g, 0, none⟩), .int .u64 k, u 2, u 3, .int .i64 dt, .int .i64 r, .int .i64 v, .int .u64 x, u 8, u 9, u 10, u 11, u 12, u 13, u 14, u 15, u 16, u 17, u 18, u 19, u 20, u 21, u 22, u 23, u 24, u 25, u 26, u 27, u 28, u 29, u 30, u 31, u 32, u 33, u 34, u 35, u 36, u 37, u 38, u 39, u 40, u 41, u 42, u 43, u 44, u 45, u 46, u 47, u 48, u 49, u 50, u 51, u 52, u 53, u 54, u 55, u 56, u 57, u 58, u 59, u 60, u 61, u 62, u 63, u 64, u 65, u 66, u 67, u 68, u 69, u 70, u 71, u 72, u 73, u 74, u 75, u 76, u 77, u 78, u 79, u 80, u 81, u 82, u 83, u 84, u 85, u 86, u 87, u 88, u 89, u 90, u 91, u 92, u 93, u 94, u 95, u 96, u 97, u 98, u 99, u 100, u 101, u 102, u 103, u 104, u 105, u 106, u 107, u 108, u 109, u 110, u 111, u 112, u 113, u 114, u 115, u 116, u 117, u 118, u 119, u 120, u 121, u 122, u 123, u 124, u 125, u 126, u 127, u 128, u 129, u 130, u 131, u 132, u 133, u 134, u 135, u 136], defers := [] } := by kernel_rfl
theorem F87b_at (g k dt : Nat) (r : Int) (v x : Nat) {L : List Value} (hl : L.length = 137) (hn : NmOk L [(0, .pointer (some ⟨g, 0, none⟩)), (1, .int .u64 k), (4, .int .i64 dt), (5, .int .i64 r), (6, .int .i64 v), (7, .int .u64 x)]) : (F87b g k dt  r  v x fun k => (Act.mk L.toArray []).tmps.getD k undef) = { tmps := L.toArray, defers := [] } := FG_at hl hn
def F87c (g dt v x : Nat) : (Nat → Value) → Act := FG 137 [(0, .pointer (some ⟨g, 0, none⟩)), (4, .int .i64 dt), (6, .int .i64 v), (7, .int .u64 x)]
theorem F87c_lit (g dt v x : Nat) (u : Nat → Value) : F87c g dt v x u = { tmps := #[.pointer (some ⟨g, 0, none⟩), u 1, u 2, u 3, .int .i64 dt, u 5, .int .i64 v, .int .u64 x, u 8, u 9, u 10, u 11, u 12, u 13, u 14, u 15, u 16, u 17, u 18, u 19, u 20, u 21, u 22, u 23, u 24, u 25, u 26, u 27, u 28, u 29, u 30, u 31, u 32, u 33, u 34, u 35, u 36, u 37, u 38, u 39, u 40, u 41, u 42, u 43, u 44, u 45, u 46, u 47, u 48, u 49, u 50, u 51, u 52, u 53, u 54, u 55, u 56, u 57, u 58, u 59, u 60, u 61, u 62, u 63, u 64, u 65, u 66, u 67, u 68, u 69, u 70, u 71, u 72, u 73, u 74, u 75, u 76, u 77, u 78, u 79, u 80, u 81, u 82, u 83, u 84, u 85, u 86, u 87, u 88, u 89, u 90, u 91, u 92, u 93, u 94, u 95, u 96, u 97, u 98, u 99, u 100, u 101, u 102, u 103, u 104, u 105, u 106, u 107, u 108, u 109, u 110, u 111, u 112, u 113, u 114, u 115, u 116, u 117, u 118, u 119, u 120, u 121, u 122, u 123, u 124, u 125, u 126, u 127, u 128, u 129, u 130, u 131, u 132, u 133, u 134, u 135, u 136], defers := [] } := by kernel_rfl
theorem F87c_at (g dt v x : Nat) {L : List Value} (hl : L.length = 137) (hn : NmOk L [(0, .pointer (some ⟨g, 0, none⟩)), (4, .int .i64 dt), (6, .int .i64 v), (7, .int .u64 x)]) : (F87c g dt v x fun k => (Act.mk L.toArray []).tmps.getD k undef) = { tmps := L.toArray, defers := [] } := FG_at hl hn

theorem u112 : Tryd.prog.underlying 112 = some (.array 800 5) := by kernel_rfl
theorem a112 : Tryd.prog.arrayLen 112 = 800 := by kernel_rfl
theorem e112 : Tryd.prog.elem 112 = 5 := by kernel_rfl
theorem run_digits (g nd : Nat) (h : nd ≤ 800) (w : World) : (Instr.sliceAt 112 (.pointer (some ⟨g, 0, none⟩)) (some (.int .i64 0)) (some (.int .i64 nd)) none).run Tryd.prog w = .ok (.slice (some ⟨g, 0, none⟩) nd 800) w := by
  have hz : (sizeOf 5).run Tryd.prog w = .ok 1 w := by simp [go_sem]
  rw [run_sliceAt_array_lh (P := Tryd.prog) w 112 ⟨g, 0, none⟩ (by rw [a112, e112]; exact u112) .i64 .i64 0 nd (by omega) (by omega) (by rw [a112]; omega), e112, hz]
  simp [a112, slicedAt, Result.andThen, Addr.add]

/-- the table of left shifts, as laid -/
def LcE (w : World) : Prop := ∃ a cap, w.cell? ⟨13, 0, none⟩ = some (.slice (some a) 61 cap) ∧ ∀ k, k ≤ 60 → w.cell? (a.add (k * 2)) = some (.int .i64 (dK k)) ∧
  ∃ s : ByteArray, s.data.toList = (cheat k).2 ∧ w.cell? ⟨(a.add (k * 2)).block, (a.add (k * 2)).off + 1, none⟩ = some (.string s)

set_option maxHeartbeats 2000000 in
theorem left_any (g V k : Nat) (dp : Int) (tr : Bool) (nd : Nat) (w : World) (T : LcE w) (hV : Big V) (hk1 : 1 ≤ k) (hk2 : k ≤ 60) (hdp : -100000 ≤ dp ∧ dp ≤ 100000) (h : Dst w g V dp tr nd) :
    Calls Tryd.prog 87 #[.pointer (some ⟨g, 0, none⟩), .int .u64 k] w (TrimPost w g (lV V k) (dp + (dl V k : Int)) (tr || lT V k)) := by
  have hn1 := h.nd1 hV
  have HH := Lib.hid h
  obtain ⟨dc, hB, hR⟩ := h
  have hnd : nd ≤ 800 := hR.2.2
  obtain ⟨c0, c1, c2, c3⟩ := hB.cells
  have HB := Lib.hid hB; clear hB
  have HR := Lib.hid hR; clear hR
  have HV := Lib.hid hV; clear hV
  obtain ⟨a, cap, t0, t1⟩ := T
  obtain ⟨t2, s, hs, t3⟩ := t1 k hk2
  have H := cheat_ok hk1 hk2
  have hsz : s.size = (cheat k).2.length := by rw [← hs, Array.length_toList]; rfl
  have hsd : ∀ j (h : j < s.size), s[j].toNat = 48 + dgt (cK k) j := by
    intro j hj
    have := H.dig j (by have := H.len; omega) (by omega)
    rw [← this, ← hs, List.getD_eq_getElem?_getD, List.getElem?_eq_getElem (by rw [hs]; omega)]
    rfl
  have hC : ∀ n, Calls Tryd.prog 93 #[.slice (some ⟨g, 0, none⟩) nd 800, .string s] (w.drewN n) fun e w' => e = .returned (.bool (decide (V < cK k))) ∧ ∃ q, w' = w.drewN q := fun n =>
    (prefix_any g V k dp tr nd s (w.drewN n) HV.out.2 hk1 hk2 HH.out hsz hsd).mono fun e w' h => ⟨h.1, by obtain ⟨q, rfl⟩ := h.2; exact drewN_more ⟨n, rfl⟩ q⟩
  have HC := Lib.hid hC
  clear H hs hsz hsd t1 hC
  have w1 : (k : Int) < 61 := by omega
  have hsl := run_digits g nd hnd
  go_enter Tryd.func87, Tryd.ntmps87
  go_wp2
  rename_i KK hKK K1 hK1
  have HRest : ∀ (a' : Act) (w' : World), (∃ q, w' = w.drewN q) → (F87a g k (dl V k) fun k => a'.tmps.getD k undef) = a' → KK a' w' := by
    intro a' w' hw he
    rw [← he]
    apply hKK
    clear hKK he hK1
    generalize (fun k => a'.tmps.getD k undef) = u
    rw [F87a_lit]
    have hdl := dl_le (V := V) hk1 hk2
    obtain ⟨δ, hδ⟩ : ∃ δ, dl V k = δ := ⟨_, rfl⟩
    rw [hδ] at hdl ⊢
    have Hδ := Lib.hid hδ; clear hδ
    have hD0 : DB w' g dc nd dp tr := by obtain ⟨q, rfl⟩ := hw; exact HB.out
    have hG0 : w.grownBy w' (some g) := by obtain ⟨q, rfl⟩ := hw; exact gb_drewN (World.grownBy.refl _ _) _
    clear hw c0 c1 c2 c3 t0 t2 t3 hsl
    obtain ⟨c0, c1, c2, c3⟩ := hD0.cells
    have HD0 := Lib.hid hD0; clear hD0
    have HG0 := Lib.hid hG0; clear hG0
    have hlast := l_len HV.out hk1 hk2 HR.out.2.2 HR.out.2.1 hn1
    rw [Hδ.out] at hlast
    have HLAST := Lib.hid hlast; clear hlast
    have hlD : ∀ i, i < nd + δ → lD V k i = pre V nd * 2 ^ k / 10 ^ (nd + δ - 1 - i) % 10 := by
      intro i hi
      have := lD_at (V := V) (k := k) (i := i) HR.out.2.2 HR.out.2.1 (by rw [Hδ.out]; exact hi)
      rwa [Hδ.out] at this
    have HLD := Lib.hid hlD; clear hlD
    have hP : 2 ^ k ≤ 2 ^ 60 := Nat.pow_le_pow_right (by omega) hk2
    have HP := Lib.hid hP; clear hP
    go_wp2
    clear c0 c1 c2 c3
    rename_i KK2 hKK2
    have HRest : ∀ (a' : Act) (w1 : World), (∃ dc1 tr1, DB w1 g dc1 nd dp tr1 ∧ (∀ i, δ ≤ i → i < nd + δ → i < 800 → dc1 i = 48 + lD V k i) ∧ (tr1 = true ↔ tr = true ∨ ∃ i, N8 ≤ i ∧ δ ≤ i ∧ i < nd + δ ∧ lD V k i ≠ 0) ∧ w.grownBy w1 (some g)) → (F87c g δ δ (ln V nd k nd) fun k => a'.tmps.getD k undef) = a' → KK2 a' w1 := by
      rintro a' w1 ⟨dc1, tr1, hB1, hd1, ht1, hg1⟩ he
      rw [← he]
      apply hKK2
      clear hKK2 he
      generalize (fun k => a'.tmps.getD k undef) = u1
      rw [F87c_lit]
      have HB1 := Lib.hid hB1; clear hB1
      have HD1 := Lib.hid hd1; clear hd1
      have HT1 := Lib.hid ht1; clear ht1
      have HG1 := Lib.hid hg1; clear hg1
      obtain ⟨y, hy⟩ : ∃ y, ln V nd k nd = y := ⟨_, rfl⟩
      rw [hy]
      have HY := Lib.hid hy; clear hy
      go_wp2
      rename_i KK3 hKK3
      -- the end
      have HR4 : ∀ (a' : Act) (w2 : World), (∃ dc2 tr2, DB w2 g dc2 nd dp tr2 ∧ (∀ i, i < nd + δ → i < 800 → dc2 i = 48 + lD V k i) ∧ (tr2 = true ↔ tr = true ∨ ∃ i, N8 ≤ i ∧ i < nd + δ ∧ lD V k i ≠ 0) ∧ w.grownBy w2 (some g)) →
          (F87c g δ 0 0 fun k => a'.tmps.getD k undef) = a' → KK3 a' w2 := by
        rintro a' w2 ⟨dc2, tr2, hB2, hd2, ht2, hg2⟩ he
        rw [← he]
        apply hKK3
        clear hKK3 he
        generalize (fun k => a'.tmps.getD k undef) = u2
        rw [F87c_lit]
        have e8 := N8_eq
        have htr : tr2 = (tr || lT V k) := by
          rw [Bool.eq_iff_iff, ht2, Bool.or_eq_true, lT_iff hk1 hk2 HR.out.2.2 HR.out.2.1, Hδ.out]
        subst htr
        have f0 := hB2.free 800
        have f1 := hB2.free 801
        have c0 := hB2.cells.1
        have c1 := hB2.cells.2.1
        have w1 : IntKind.i64.wrap ((nd : Int) + δ) = (nd : Int) + δ := IntWalk.i64_in _ (by omega)
        have w2' : IntKind.i64.wrap (dp + δ) = dp + δ := IntWalk.i64_in _ (by omega)
        have hpast : ∀ i, nd + δ ≤ i → i < N8 → dgt (lV V k) i = 0 := fun i hi h8 => by
          rw [lV_dgt h8]; exact lD_past HR.out.2.2 HR.out.2.1 (by rw [Hδ.out]; exact hi)
        have HPA := Lib.hid hpast; clear hpast
        have HD2 := Lib.hid hd2; clear hd2
        clear ht2
        by_cases h8 : nd + δ < 800
        · have hD : Dst ((w2.setCell ⟨g, 800, none⟩ (.int .i64 ((nd : Int) + δ))).setCell ⟨g, 801, none⟩ (.int .i64 (dp + δ))) g (lV V k) (dp + δ) (tr || lT V k) (nd + δ) :=
            ⟨dc2, DB.setDp (DB.setNd hB2 (nd + δ)) _, fun i hi => by rw [HD2.out i hi (by omega), lV_dgt (by omega)], fun i hi => by
              by_cases h : i < N8
              · exact HPA.out i hi h
              · exact dgt_ge _ _ (by omega), by omega⟩
          have HDD := Lib.hid hD; clear hD
          have g1 : decide ((nd : Int) + δ ≥ 800) = false := decide_eq_false (by omega)
          have HB2 := Lib.hid hB2; clear hB2
          have HG2 := Lib.hid hg2; clear hg2
          go_wp2_with (fail)
          refine (trim_any g (lV V k) _ _ (nd + δ) _ (lV_big HV.out hk1 hk2) HDD.out).mono ?_
          rintro e w3 ⟨rfl, nd3, h1, h2, h3⟩
          have H1 := Lib.hid h1; clear h1
          have H2 := Lib.hid h2; clear h2
          have H3 := Lib.hid (Lib.grownBy_trans (gb_set (gb_set HG2.out _ _) _ _) h3); clear h3
          go_wp2
          go_end0
          exact ⟨rfl, nd3, H1.out, H2.out, H3.out⟩
        · have hD : Dst (((w2.setCell ⟨g, 800, none⟩ (.int .i64 ((nd : Int) + δ))).setCell ⟨g, 800, none⟩ (.int .i64 800)).setCell ⟨g, 801, none⟩ (.int .i64 (dp + δ))) g (lV V k) (dp + δ) (tr || lT V k) 800 :=
            ⟨dc2, DB.setDp (DB.setNd (DB.setNd hB2 (nd + δ)) 800) _, fun i hi => by rw [HD2.out i (by omega) hi, lV_dgt (by omega)], fun i hi => dgt_ge _ _ (by omega), by omega⟩
          have HDD := Lib.hid hD; clear hD
          have g1 : decide ((nd : Int) + δ ≥ 800) = true := decide_eq_true (by omega)
          have HB2 := Lib.hid hB2; clear hB2
          have HG2 := Lib.hid hg2; clear hg2
          go_wp2_with (fail)
          refine (trim_any g (lV V k) _ _ 800 _ (lV_big HV.out hk1 hk2) HDD.out).mono ?_
          rintro e w3 ⟨rfl, nd3, h1, h2, h3⟩
          have H1 := Lib.hid h1; clear h1
          have H2 := Lib.hid h2; clear h2
          have H3 := Lib.hid (Lib.grownBy_trans (gb_set (gb_set (gb_set HG2.out _ _) _ _) _ _) h3); clear h3
          go_wp2
          go_end0
          exact ⟨rfl, nd3, H1.out, H2.out, H3.out⟩
      have HR4 := Lib.hid HR4
      clear hKK3
      refine wp_loop_x (fun x : Nat × Nat => F87c g δ x.1 (ln V nd k x.2)) (fun n x w2 => n = x.1 ∧ nd ≤ x.2 ∧ x.1 + x.2 = nd + δ ∧ ∃ dc2 tr2, DB w2 g dc2 nd dp tr2 ∧ (∀ i, x.1 ≤ i → i < nd + δ → i < 800 → dc2 i = 48 + lD V k i) ∧ (tr2 = true ↔ tr = true ∨ ∃ i, N8 ≤ i ∧ x.1 ≤ i ∧ i < nd + δ ∧ lD V k i ≠ 0) ∧ w.grownBy w2 (some g)) δ (δ, nd)
        ⟨rfl, Nat.le_refl _, Nat.add_comm _ _, dc1, tr1, HB1.out, HD1.out, HT1.out, HG1.out⟩ (F87c_at _ _ _ _ rfl ⟨rfl, rfl, rfl, by show _ = Value.int .u64 ((ln V nd k nd : Nat) : Int); rw [HY.out]; rfl, trivial⟩) ?_
      rintro n ⟨v, j⟩ u2 w2 hrel K2 hK2
      obtain ⟨hn, hj, hv, dc2, tr2, hB2, hd2, ht2, hg2⟩ := hrel
      simp only at hn hj hv hd2 ht2
      have HN := Lib.hid hn; clear hn
      have HK2 := Lib.hid hK2; clear hK2
      have HD2 := Lib.hid hd2; clear hd2
      have HT2 := Lib.hid ht2; clear ht2
      have HG2 := Lib.hid hg2; clear hg2
      have hx2 := ln_over (k := k) HV.out.2 hj
      rw [F87c_lit]
      obtain ⟨x, hx⟩ : ∃ x, ln V nd k j = x := ⟨_, rfl⟩
      rw [hx]
      by_cases hx0 : x = 0
      · subst hx0
        have hv0 : v = 0 := by
          refine Nat.eq_zero_of_not_pos fun hpos => ?_
          have h1 := HLAST.out.1
          have h2 : 10 ^ j ≤ 10 ^ (nd + δ - 1) := Nat.pow_le_pow_right (by omega) (by omega)
          have h3 := Nat.div_pos (Nat.le_trans h2 h1) (p10 j)
          rw [← hx2, hx] at h3
          omega
        subst hv0
        have HB2 := Lib.hid hB2; clear hB2
        clear hx2 hx hv
        go_wp2
        exact HR4.out _ _ ⟨dc2, tr2, HB2.out, fun i h1 h2 => HD2.out i (Nat.zero_le _) h1 h2, by
          rw [HT2.out]
          exact ⟨fun h => h.elim .inl fun ⟨i, a, _, b, c⟩ => .inr ⟨i, a, b, c⟩, fun h => h.elim .inl fun ⟨i, a, b, c⟩ => .inr ⟨i, a, Nat.zero_le _, b, c⟩⟩, HG2.out⟩ (F87c_at _ _ _ _ rfl ⟨rfl, rfl, rfl, rfl, trivial⟩)
      · have hvpos : v ≠ 0 := by
          intro hv0
          have h1 := HLAST.out.2
          rw [show nd + δ = j by omega] at h1
          rw [Nat.div_eq_of_lt h1, hx] at hx2
          exact hx0 hx2
        obtain ⟨v, rfl⟩ : ∃ v', v = v' + 1 := ⟨v - 1, by omega⟩
        have g1 : 0 < x := Nat.pos_of_ne_zero hx0
        have lnx := ln_next V nd k j
        have ldg := ln_dig V nd k j
        have lb := ln_lt V nd k j
        rw [pre_over HV.out.2 hj, Nat.zero_mul, Nat.add_zero] at lnx ldg
        have hD : lD V k v = pre V nd * 2 ^ k / 10 ^ j % 10 := by rw [HLD.out v (by omega)]; congr 4; omega
        rw [← hD] at ldg
        have lb2 : ln V nd k j < 2 ^ 60 := Nat.lt_of_lt_of_le lb HP.out
        obtain ⟨q, hq⟩ : ∃ x, ln V nd k (j + 1) = x := ⟨_, rfl⟩
        obtain ⟨D, hDD⟩ : ∃ x, lD V k v = x := ⟨_, rfl⟩
        rw [hx] at lb2
        rw [hx, hq] at lnx
        rw [hx, hDD] at ldg
        have w4 : (x : Int) / 10 = (q : Int) := by omega
        have w13 : IntKind.u64.wrap (q : Int) = (q : Int) := IntWalk.u64_in _ (by omega)
        have w5 : IntKind.u64.wrap (10 * (q : Int)) = 10 * (q : Int) := IntWalk.u64_in _ (by omega)
        have w6 : IntKind.u64.wrap ((x : Int) - 10 * (q : Int)) = (D : Int) := by rw [show (x : Int) - 10 * (q : Int) = D by omega]; exact IntWalk.u64_in _ (by omega)
        have w7 : IntKind.u64.wrap ((D : Int) + 48) = (48 + D : Nat) := by rw [show (D : Int) + 48 = (48 + D : Nat) by omega]; exact IntWalk.u64_in _ (by omega)
        have w8 : IntKind.u8.wrap ((48 + D : Nat) : Int) = (48 + D : Nat) := IntWalk.u8_in _ (by omega)
        have w9 : IntKind.i64.wrap ((v : Int) + 1 - 1) = v := by rw [show (v : Int) + 1 - 1 = v by omega]; exact IntWalk.i64_in _ (by omega)
        obtain ⟨e, he⟩ : ∃ e, 48 + D = e := ⟨_, rfl⟩
        rw [he] at w7 w8
        have HQ := Lib.hid hq; clear hq
        have HDD := Lib.hid hDD; clear hDD
        have HE := Lib.hid he; clear he
        have HJ : Hid (nd ≤ j ∧ v + 1 + j = nd + δ) := Lib.hid ⟨hj, hv⟩
        have hvb : v < 900 := by omega
        clear lnx ldg lb lb2 hx hx2 hx0 hD hvpos hj hv
        by_cases hv8 : v < 800
        · have cv := hB2.cell hv8
          have fv := hB2.free v
          have HB2 := Lib.hid hB2; clear hB2
          go_wp2
          obtain ⟨hJ1, hJ2⟩ := HJ.out
          refine HK2.out v (v, j + 1) _ _ (by have := HN.out; omega) ⟨rfl, by show nd ≤ j + 1; omega, by show v + (j + 1) = nd + δ; omega, upd dc2 v e, tr2, DB.set HB2.out hv8 e, ?_, ?_, gb_set HG2.out _ _⟩ (F87c_at _ _ _ _ rfl ⟨rfl, rfl, rfl, by show _ = Value.int .u64 ((ln V nd k (j + 1) : Nat) : Int); rw [HQ.out]; rfl, trivial⟩)
          · intro i h1 h2 h3
            have h1 : v ≤ i := h1
            show (if i = v then e else dc2 i) = _
            by_cases e1 : i = v
            · rw [if_pos e1, e1, HDD.out, HE.out]
            · rw [if_neg e1]; exact HD2.out i (by omega) h2 h3
          · rw [HT2.out]
            constructor
            · rintro (h | ⟨i, a, b, c, d⟩)
              · exact .inl h
              · exact .inr ⟨i, a, by show v ≤ i; omega, c, d⟩
            · rintro (h | ⟨i, a, b, c, d⟩)
              · exact .inl h
              · have b : v ≤ i := b
                have e8 := N8_eq
                exact .inr ⟨i, a, by omega, c, d⟩
        · have f3 := hB2.free 803
          have c3 := hB2.cells.2.2.2
          have w12 : decide ((v : Int) < 800) = false := decide_eq_false (by omega)
          have HB2 := Lib.hid hB2; clear hB2
          by_cases hD0 : D = 0
          · subst hD0
            go_wp2
            obtain ⟨hJ1, hJ2⟩ := HJ.out
            refine HK2.out v (v, j + 1) _ _ (by have := HN.out; omega) ⟨rfl, by show nd ≤ j + 1; omega, by show v + (j + 1) = nd + δ; omega, dc2, tr2, HB2.out, ?_, ?_, HG2.out⟩ (F87c_at _ _ _ _ rfl ⟨rfl, rfl, rfl, by show _ = Value.int .u64 ((ln V nd k (j + 1) : Nat) : Int); rw [HQ.out]; rfl, trivial⟩)
            · intro i h1 h2 h3
              have h1 : v ≤ i := h1
              exact HD2.out i (by omega) h2 h3
            · rw [HT2.out]
              constructor
              · rintro (h | ⟨i, a, b, c, d⟩)
                · exact .inl h
                · exact .inr ⟨i, a, by show v ≤ i; omega, c, d⟩
              · rintro (h | ⟨i, a, b, c, d⟩)
                · exact .inl h
                · have b : v ≤ i := b
                  by_cases e1 : i = v
                  · subst e1; exact absurd HDD.out d
                  · exact .inr ⟨i, a, by omega, c, d⟩
          · have g2 : ((D : Int) != 0) = true := by simpa using hD0
            have HD00 := Lib.hid hD0; clear hD0
            go_wp2
            obtain ⟨hJ1, hJ2⟩ := HJ.out
            refine HK2.out v (v, j + 1) _ _ (by have := HN.out; omega) ⟨rfl, by show nd ≤ j + 1; omega, by show v + (j + 1) = nd + δ; omega, dc2, true, DB.setTr HB2.out true, ?_, ?_, gb_set HG2.out _ _⟩ (F87c_at _ _ _ _ rfl ⟨rfl, rfl, rfl, by show _ = Value.int .u64 ((ln V nd k (j + 1) : Nat) : Int); rw [HQ.out]; rfl, trivial⟩)
            · intro i h1 h2 h3
              have h1 : v ≤ i := h1
              exact HD2.out i (by omega) h2 h3
            · exact ⟨fun _ => .inr ⟨v, by have := N8_eq; omega, Nat.le_refl _, by omega, by rw [HDD.out]; exact HD00.out⟩, fun _ => rfl⟩
    have HRest := Lib.hid HRest
    clear hKK2
    refine wp_loop_x (fun x : Int × Nat × Nat => F87b g k δ x.1 x.2.1 (ln V nd k x.2.2)) (fun n x w1 => n = nd - x.2.2 ∧ x.2.2 ≤ nd ∧ x.1 = (nd : Int) - 1 - x.2.2 ∧ x.2.1 + x.2.2 = nd + δ ∧ ∃ dc1 tr1, DB w1 g dc1 nd dp tr1 ∧ (∀ i, i + x.2.2 < nd → dc1 i = dc i) ∧ (∀ i, x.2.1 ≤ i → i < nd + δ → i < 800 → dc1 i = 48 + lD V k i) ∧ (tr1 = true ↔ tr = true ∨ ∃ i, N8 ≤ i ∧ x.2.1 ≤ i ∧ i < nd + δ ∧ lD V k i ≠ 0) ∧ w.grownBy w1 (some g)) nd ((nd : Int) - 1, nd + δ, 0)
      ⟨rfl, Nat.zero_le _, by show (nd : Int) - 1 = nd - 1 - (0 : Nat); omega, rfl, dc, tr, HD0.out, fun i _ => rfl, fun i h1 h2 => absurd (show nd + δ ≤ i from h1) (by omega), ⟨fun h => .inl h, fun h => h.elim id fun ⟨i, _, b, c, _⟩ => absurd (show nd + δ ≤ i from b) (by omega)⟩, HG0.out⟩ (F87b_at _ _ _ _ _ _ rfl ⟨rfl, rfl, rfl, rfl, rfl, by show _ = Value.int .u64 ((ln V nd k 0 : Nat) : Int); rw [ln_zero]; rfl, trivial⟩) ?_
    rintro n ⟨r, v, j⟩ u2 w2 hrel K2 hK2
    obtain ⟨hn, hj, hr, hv, dc1, tr1, hB1, hs1, hd1, ht1, hg1⟩ := hrel
    simp only at hn hj hr hv hs1 hd1 ht1
    have HN := Lib.hid hn; clear hn
    have HK2 := Lib.hid hK2; clear hK2
    have HD1 := Lib.hid hd1; clear hd1
    have HS1 := Lib.hid hs1; clear hs1
    have HT1 := Lib.hid ht1; clear ht1
    have HG1 := Lib.hid hg1; clear hg1
    rw [F87b_lit]
    by_cases hlt : j < nd
    · obtain ⟨ρ, hρ⟩ : ∃ ρ : Nat, r = ρ := ⟨nd - 1 - j, by omega⟩
      subst hρ
      obtain ⟨v, rfl⟩ : ∃ v', v = v' + 1 := ⟨v - 1, by omega⟩
      have hρj : ρ = nd - 1 - j := by omega
      have cr := hB1.cell (show ρ < 800 by omega)
      rw [HS1.out ρ (by omega), HR.out.1 ρ (by omega)] at cr
      have lnx := ln_next V nd k j
      have ldg := ln_dig V nd k j
      have lb := ln_lt V nd k j
      rw [pre_sub hlt, ← hρj] at lnx ldg
      have hD : lD V k v = pre V nd * 2 ^ k / 10 ^ j % 10 := by rw [HLD.out v (by omega)]; congr 4; omega
      rw [← hD] at ldg
      have hd9 := dgt_lt V ρ
      have hs : dgt V ρ * 2 ^ k ≤ 9 * 2 ^ 60 := Nat.mul_le_mul (by omega) HP.out
      have lb2 : ln V nd k j < 2 ^ 60 := Nat.lt_of_lt_of_le lb HP.out
      obtain ⟨x, hx⟩ : ∃ x, ln V nd k j = x := ⟨_, rfl⟩
      obtain ⟨q, hq⟩ : ∃ x, ln V nd k (j + 1) = x := ⟨_, rfl⟩
      obtain ⟨c, hc⟩ : ∃ x, dgt V ρ = x := ⟨_, rfl⟩
      obtain ⟨S, hS⟩ : ∃ x, c * 2 ^ k = x := ⟨_, rfl⟩
      obtain ⟨D, hDD⟩ : ∃ x, lD V k v = x := ⟨_, rfl⟩
      rw [hc] at cr hd9
      rw [hc, hS] at hs
      rw [hx] at lb2
      rw [hx, hc, hS, hq] at lnx
      rw [hx, hc, hS, hDD] at ldg
      have w0 : IntKind.u64.wrap ((48 + c : Nat) : Int) = (48 + c : Nat) := IntWalk.u64_in _ (by omega)
      have w1 : IntKind.u64.wrap (((48 + c : Nat) : Int) - 48) = (c : Int) := by rw [show ((48 + c : Nat) : Int) - 48 = c by omega]; exact IntWalk.u64_in _ (by omega)
      have w2' : IntKind.u64.wrap ((c : Int) * 2 ^ k) = (S : Int) := by
        rw [show (c : Int) * 2 ^ k = ((c * 2 ^ k : Nat) : Int) by rw [Int.natCast_mul, Int.natCast_pow]; rfl, hS]; exact IntWalk.u64_in _ (by omega)
      have w3 : IntKind.u64.wrap ((x : Int) + S) = (x + S : Nat) := IntWalk.u64_in _ (by omega)
      have w4 : ((x + S : Nat) : Int) / 10 = (q : Int) := by omega
      have w5 : IntKind.u64.wrap (10 * (q : Int)) = 10 * (q : Int) := IntWalk.u64_in _ (by omega)
      have w6 : IntKind.u64.wrap (((x + S : Nat) : Int) - 10 * (q : Int)) = (D : Int) := by rw [show ((x + S : Nat) : Int) - 10 * (q : Int) = D by omega]; exact IntWalk.u64_in _ (by omega)
      have w7 : IntKind.u64.wrap ((D : Int) + 48) = (48 + D : Nat) := by rw [show (D : Int) + 48 = (48 + D : Nat) by omega]; exact IntWalk.u64_in _ (by omega)
      have w8 : IntKind.u8.wrap ((48 + D : Nat) : Int) = (48 + D : Nat) := IntWalk.u8_in _ (by omega)
      have w9 : IntKind.i64.wrap ((v : Int) + 1 - 1) = v := by rw [show (v : Int) + 1 - 1 = v by omega]; exact IntWalk.i64_in _ (by omega)
      have w10 : IntKind.i64.wrap ((ρ : Int) - 1) = (ρ : Int) - 1 := IntWalk.i64_in _ (by omega)
      have w11 : (ρ : Int) < 800 := by omega
      obtain ⟨e, he⟩ : ∃ e, 48 + D = e := ⟨_, rfl⟩
      obtain ⟨N, hN⟩ : ∃ e, x + S = e := ⟨_, rfl⟩
      obtain ⟨c', hc'⟩ : ∃ e, 48 + c = e := ⟨_, rfl⟩
      rw [he] at w7 w8
      rw [hN] at w3 w4 w6
      rw [hc'] at w0 w1 cr
      rw [hx]
      have w13 : IntKind.u64.wrap (q : Int) = (q : Int) := IntWalk.u64_in _ (by omega)
      have HQ := Lib.hid hq; clear hq
      have HDD := Lib.hid hDD; clear hDD
      have HE := Lib.hid he; clear he
      clear lnx ldg lb lb2 hs hS hN hc' hc hx hD hd9
      have HJ : Hid (ρ + j + 1 = nd ∧ v + 1 + j = nd + δ) := Lib.hid ⟨by omega, by omega⟩
      have hvb : v < 900 := by omega
      clear hρj hr hv
      by_cases hv8 : v < 800
      · have cv := hB1.cell hv8
        have fv := hB1.free v
        have HB1 := Lib.hid hB1; clear hB1
        go_wp2
        obtain ⟨hJ1, hJ2⟩ := HJ.out
        refine HK2.out (nd - (j + 1)) ((ρ : Int) - 1, v, j + 1) _ _ (by have := HN.out; omega) ⟨rfl, by show j + 1 ≤ nd; omega, by show (ρ : Int) - 1 = nd - 1 - (j + 1 : Nat); omega, by show v + (j + 1) = nd + δ; omega, upd dc1 v e, tr1, DB.set HB1.out hv8 e, ?_, ?_, ?_, gb_set HG1.out _ _⟩ (F87b_at _ _ _ _ _ _ rfl ⟨rfl, rfl, rfl, rfl, rfl, by show _ = Value.int .u64 ((ln V nd k (j + 1) : Nat) : Int); rw [HQ.out]; rfl, trivial⟩)
        · intro i hi
          have hi : i + (j + 1) < nd := hi
          show (if i = v then e else dc1 i) = _
          rw [if_neg (by omega)]; exact HS1.out i (by omega)
        · intro i h1 h2 h3
          have h1 : v ≤ i := h1
          show (if i = v then e else dc1 i) = _
          by_cases e1 : i = v
          · rw [if_pos e1, e1, HDD.out, HE.out]
          · rw [if_neg e1]; exact HD1.out i (by omega) h2 h3
        · rw [HT1.out]
          constructor
          · rintro (h | ⟨i, a, b, c, d⟩)
            · exact .inl h
            · exact .inr ⟨i, a, by show v ≤ i; omega, c, d⟩
          · rintro (h | ⟨i, a, b, c, d⟩)
            · exact .inl h
            · have b : v ≤ i := b
              have e8 := N8_eq
              exact .inr ⟨i, a, by omega, c, d⟩
      · have f3 := hB1.free 803
        have c3 := hB1.cells.2.2.2
        have w12 : decide ((v : Int) < 800) = false := decide_eq_false (by omega)
        have HB1 := Lib.hid hB1; clear hB1
        by_cases hD0 : D = 0
        · subst hD0
          go_wp2
          obtain ⟨hJ1, hJ2⟩ := HJ.out
          refine HK2.out (nd - (j + 1)) ((ρ : Int) - 1, v, j + 1) _ _ (by have := HN.out; omega) ⟨rfl, by show j + 1 ≤ nd; omega, by show (ρ : Int) - 1 = nd - 1 - (j + 1 : Nat); omega, by show v + (j + 1) = nd + δ; omega, dc1, tr1, HB1.out, ?_, ?_, ?_, HG1.out⟩ (F87b_at _ _ _ _ _ _ rfl ⟨rfl, rfl, rfl, rfl, rfl, by show _ = Value.int .u64 ((ln V nd k (j + 1) : Nat) : Int); rw [HQ.out]; rfl, trivial⟩)
          · intro i hi
            have hi : i + (j + 1) < nd := hi
            exact HS1.out i (by omega)
          · intro i h1 h2 h3
            have h1 : v ≤ i := h1
            exact HD1.out i (by omega) h2 h3
          · rw [HT1.out]
            constructor
            · rintro (h | ⟨i, a, b, c, d⟩)
              · exact .inl h
              · exact .inr ⟨i, a, by show v ≤ i; omega, c, d⟩
            · rintro (h | ⟨i, a, b, c, d⟩)
              · exact .inl h
              · have b : v ≤ i := b
                by_cases e1 : i = v
                · subst e1; exact absurd HDD.out d
                · exact .inr ⟨i, a, by omega, c, d⟩
        · have g2 : ((D : Int) != 0) = true := by simpa using hD0
          have HD00 := Lib.hid hD0; clear hD0
          go_wp2
          obtain ⟨hJ1, hJ2⟩ := HJ.out
          refine HK2.out (nd - (j + 1)) ((ρ : Int) - 1, v, j + 1) _ _ (by have := HN.out; omega) ⟨rfl, by show j + 1 ≤ nd; omega, by show (ρ : Int) - 1 = nd - 1 - (j + 1 : Nat); omega, by show v + (j + 1) = nd + δ; omega, dc1, true, DB.setTr HB1.out true, ?_, ?_, ?_, gb_set HG1.out _ _⟩ (F87b_at _ _ _ _ _ _ rfl ⟨rfl, rfl, rfl, rfl, rfl, by show _ = Value.int .u64 ((ln V nd k (j + 1) : Nat) : Int); rw [HQ.out]; rfl, trivial⟩)
          · intro i hi
            have hi : i + (j + 1) < nd := hi
            exact HS1.out i (by omega)
          · intro i h1 h2 h3
            have h1 : v ≤ i := h1
            exact HD1.out i (by omega) h2 h3
          · exact ⟨fun _ => .inr ⟨v, by have := N8_eq; omega, Nat.le_refl _, by omega, by rw [HDD.out]; exact HD00.out⟩, fun _ => rfl⟩
    · obtain rfl : j = nd := by omega
      obtain rfl : v = δ := by omega
      have g1 : decide (r ≥ 0) = false := decide_eq_false (by omega)
      have HB1 := Lib.hid hB1; clear hB1
      obtain ⟨y, hy⟩ : ∃ y, ln V j k j = y := ⟨_, rfl⟩
      rw [hy]
      have HY := Lib.hid hy; clear hy
      go_wp2
      exact HRest.out _ _ ⟨dc1, tr1, HB1.out, HD1.out, HT1.out, HG1.out⟩ (F87c_at _ _ _ _ rfl ⟨rfl, rfl, rfl, by rw [HY.out]; rfl, trivial⟩)
  have HRest := Lib.hid HRest
  clear hKK
  have H := cheat_ok hk1 hk2
  have hd1 := H.d1
  have hd20 := H.d20
  have hdl : dl V k = if V < cK k then dK k - 1 else dK k := rfl
  clear H
  by_cases hc : V < cK k
  · rw [if_pos hc] at hdl
    have HDL := Lib.hid hdl; clear hdl
    have hdc : decide (V < cK k) = true := decide_eq_true hc
    rw [hdc] at HC
    clear hc hdc
    obtain ⟨d, hd⟩ : ∃ d, dK k = d + 1 := ⟨dK k - 1, by omega⟩
    rw [hd, Nat.add_sub_cancel] at HDL
    rw [hd] at t2 ⊢
    have w2 : IntKind.i64.wrap (((d + 1 : Nat) : Int) - 1) = (d : Int) := by rw [show ((d + 1 : Nat) : Int) - 1 = d by omega]; exact IntWalk.i64_in _ (by omega)
    have hdb : d < 20 := by omega
    clear hd hd1 hd20
    go_quiet ((go_at_call 93; exact HC.out _))
    go_wp2
    exact HRest.out _ _ ⟨_, rfl⟩ (F87a_at _ _ _ rfl ⟨rfl, rfl, by rw [HDL.out]; rfl, trivial⟩)
  · rw [if_neg hc] at hdl
    have HDL := Lib.hid hdl; clear hdl
    have hdc : decide (V < cK k) = false := decide_eq_false hc
    rw [hdc] at HC
    clear hc hdc hd1 hd20
    go_quiet ((go_at_call 93; exact HC.out _))
    go_wp2
    exact HRest.out _ _ ⟨_, rfl⟩ (F87a_at _ _ _ rfl ⟨rfl, rfl, by rw [HDL.out]; rfl, trivial⟩)
open Dc
set_option maxRecDepth 100000

def F79 (g : Nat) (k : Int) (b c : Bool) : (Nat → Value) → Act := FG 37 [(0, .pointer (some ⟨g, 0, none⟩)), (1, .int .i64 k), (4, .bool b), (10, .bool c)]
theorem F79_lit (g : Nat) (k : Int) (b c : Bool) (u : Nat → Value) : F79 g  k  b c u = { tmps := #[.pointer (some ⟨g, 0, none⟩), .int .i64 k, u 2, u 3, .bool b, u 5, u 6, u 7, u 8, u 9, .bool c, u 11, u 12, u 13, u 14, u 15, u 16, u 17, u 18, u 19, u 20, u 21, u 22, u 23, u 24, u 25, u 26, u 27, u 28, u 29, u 30, u 31, u 32, u 33, u 34, u 35, u 36], defers := [] } := by kernel_rfl
theorem F79_at (g : Nat) (k : Int) (b c : Bool) {L : List Value} (hl : L.length = 37) (hn : NmOk L [(0, .pointer (some ⟨g, 0, none⟩)), (1, .int .i64 k), (4, .bool b), (10, .bool c)]) : (F79 g  k  b c fun k => (Act.mk L.toArray []).tmps.getD k undef) = { tmps := L.toArray, defers := [] } := FG_at hl hn
def F80 (g i x : Nat) : (Nat → Value) → Act := FG 56 [(0, .pointer (some ⟨g, 0, none⟩)), (3, .int .i64 i), (4, .int .u64 x)]
theorem F80_lit (g i x : Nat) (u : Nat → Value) : F80 g i x u = { tmps := #[.pointer (some ⟨g, 0, none⟩), u 1, u 2, .int .i64 i, .int .u64 x, u 5, u 6, u 7, u 8, u 9, u 10, u 11, u 12, u 13, u 14, u 15, u 16, u 17, u 18, u 19, u 20, u 21, u 22, u 23, u 24, u 25, u 26, u 27, u 28, u 29, u 30, u 31, u 32, u 33, u 34, u 35, u 36, u 37, u 38, u 39, u 40, u 41, u 42, u 43, u 44, u 45, u 46, u 47, u 48, u 49, u 50, u 51, u 52, u 53, u 54, u 55], defers := [] } := by kernel_rfl
theorem F80_at (g i x : Nat) {L : List Value} (hl : L.length = 56) (hn : NmOk L [(0, .pointer (some ⟨g, 0, none⟩)), (3, .int .i64 i), (4, .int .u64 x)]) : (F80 g i x fun k => (Act.mk L.toArray []).tmps.getD k undef) = { tmps := L.toArray, defers := [] } := FG_at hl hn

theorem cell_grown {w w' : World} {g : Nat} (h : w.grownBy w' (some g)) {a : Addr} {v : Value} (hb : a.block ≠ g) (hc : w.cell? a = some v) : w'.cell? a = some v := by
  have hlt : a.block < w.heap.size := by
    refine Nat.lt_of_not_le fun hn => ?_
    have : w.heap[a.block]? = none := Array.getElem?_eq_none hn
    simp [World.cell?, this] at hc
  rw [World.cell?_of_block (h.block a.block hlt (by simpa using hb))]
  exact hc

set_option maxHeartbeats 1000000 in
theorem shiftL_any (g V k : Nat) (dp : Int) (tr : Bool) (nd : Nat) (w : World) (T : LcE w) (hV : Big V) (hk1 : 1 ≤ k) (hk2 : k ≤ 60) (hdp : -100000 ≤ dp ∧ dp ≤ 100000) (h : Dst w g V dp tr nd) :
    Calls Tryd.prog 79 #[.pointer (some ⟨g, 0, none⟩), .int .i64 k] w (TrimPost w g (lV V k) (dp + (dl V k : Int)) (tr || lT V k)) := by
  have hn1 := h.nd1 hV
  have HC := Lib.hid (left_any g V k dp tr nd w T hV hk1 hk2 hdp h)
  obtain ⟨dc, hB, hR⟩ := h
  have c0 := hB.cells.1
  clear hB hR T
  have g1 : ((nd : Int) == 0) = false := beq_false_of_ne (by omega)
  have g2 : decide ((k : Int) > 0) = true := decide_eq_true (by omega)
  have g3 : decide ((k : Int) > 60) = false := decide_eq_false (by omega)
  have g4 : IntKind.u64.wrap (k : Int) = (k : Int) := IntWalk.u64_in _ (by omega)
  have g5 : 0 < k := by omega
  go_enter Tryd.func79, Tryd.ntmps79
  go_wp2_with fail
  refine wp_loop_x (fun _ : Unit => F79 g k false true) (fun _ _ w' => w' = w) 0 () rfl (F79_at _ _ _ _ rfl ⟨rfl, rfl, rfl, rfl, trivial⟩) ?_
  rintro n _ u wr rfl K hK
  clear hK
  rw [F79_lit]
  go_wp2_with fail
  refine (HC.out).mono ?_
  rintro e w3 ⟨rfl, nd3, h1, h2, h3⟩
  have H1 := Lib.hid h1; clear h1
  have H2 := Lib.hid h2; clear h2
  have H3 := Lib.hid h3; clear h3
  go_wp2
  go_end0
  exact ⟨rfl, nd3, H1.out, H2.out, H3.out⟩

set_option maxHeartbeats 1000000 in
theorem shiftR_any (g n V : Nat) (dp : Int) (tr : Bool) (nd : Nat) (w : World) (hV : Big V) (hn1 : 1 ≤ n) (hn2 : n ≤ 100000) (hdp : -60000 ≤ dp ∧ dp ≤ 60000) (h : Dst w g V dp tr nd) :
    Calls Tryd.prog 79 #[.pointer (some ⟨g, 0, none⟩), .int .i64 (-(n : Int))] w (TrimPost w g (shr 2000 n ⟨V, dp, tr⟩).V (shr 2000 n ⟨V, dp, tr⟩).dp (shr 2000 n ⟨V, dp, tr⟩).tr) := by
  have hnd1 := h.nd1 hV
  have HH := Lib.hid h
  obtain ⟨dc, hB, hR⟩ := h
  have c0 := hB.cells.1
  have HV := Lib.hid hV
  clear hB hR hV
  have g1 : ((nd : Int) == 0) = false := beq_false_of_ne (by omega)
  have g2 : decide (-(n : Int) > 0) = false := decide_eq_false (by omega)
  have g3 : decide (-(n : Int) < 0) = true := decide_eq_true (by omega)
  go_enter Tryd.func79, Tryd.ntmps79
  go_wp2_with fail
  clear c0 g1 g2 g3
  refine wp_loop_x (fun x : Nat × St => F79 g (-(x.1 : Int)) false false) (fun f x w' => 1 ≤ x.1 ∧ x.1 ≤ 60 * (f + 1) ∧ Big x.2.V ∧ -100000 + 20 * (f : Int) ≤ x.2.dp ∧ x.2.dp ≤ 60000 ∧ shr f x.1 x.2 = shr 2000 n ⟨V, dp, tr⟩ ∧ (∃ nd', Dst w' g x.2.V x.2.dp x.2.tr nd') ∧ w.grownBy w' (some g)) 2000 (n, ⟨V, dp, tr⟩)
    ⟨hn1, by show n ≤ _; omega, HV.out, by show -100000 + 20 * ((2000 : Nat) : Int) ≤ dp; omega, hdp.2, rfl, ⟨nd, HH.out⟩, World.grownBy.refl _ _⟩ (F79_at _ _ _ _ rfl ⟨rfl, rfl, rfl, rfl, trivial⟩) ?_
  rintro f ⟨m, x⟩ u w1 hrel K hK
  obtain ⟨h1, h2, h3, h4, h5, h6, ⟨nd1, h7⟩, h8⟩ := hrel
  simp only at h1 h2 h3 h4 h5 h6 h7
  have HK := Lib.hid hK; clear hK
  have H8 := Lib.hid h8; clear h8
  have H6 := Lib.hid h6; clear h6
  rw [F79_lit]
  by_cases hm : 60 < m
  · obtain ⟨f, rfl⟩ : ∃ f', f = f' + 1 := ⟨f - 1, by omega⟩
    obtain ⟨a1, a2, _, _⟩ := r0_spec h3 (Nat.le_refl 60)
    have HC := Lib.hid (right_any g x.V 60 x.dp x.tr nd1 w1 h3 (by omega) (by omega) ⟨by omega, by omega⟩ h7)
    have HB := Lib.hid (rV_big h3 (Nat.le_refl 60))
    have g4 : decide (-(m : Int) < -60) = true := decide_eq_true (by omega)
    have g5 : IntKind.i64.wrap (-(m : Int) + 60) = -((m - 60 : Nat) : Int) := by rw [show -(m : Int) + 60 = -((m - 60 : Nat) : Int) by omega]; exact IntWalk.i64_in _ (by omega)
    have HE : Hid (shr f (m - 60) (x.rsh 60) = shr 2000 n ⟨V, dp, tr⟩) := Lib.hid (by rw [← H6.out]; show _ = if 60 < m then _ else _; rw [if_pos hm])
    clear h7 h3
    have hm1 : 1 ≤ m - 60 := by omega
    have hm2 : m - 60 ≤ 60 * (f + 1) := by omega
    obtain ⟨m', hm'⟩ : ∃ m', m - 60 = m' := ⟨_, rfl⟩
    rw [hm'] at g5 hm1 hm2 HE
    clear hm'
    have hd : -100000 + 20 * (f : Int) ≤ (x.rsh 60).dp ∧ (x.rsh 60).dp ≤ 60000 := by
      show _ ≤ x.dp - ((r0 x.V 60 : Int) - 1) ∧ x.dp - ((r0 x.V 60 : Int) - 1) ≤ _
      constructor <;> omega
    have HD := Lib.hid hd; clear hd a1 a2 h4 h5
    go_wp2_with fail
    refine (HC.out).mono ?_
    rintro e w3 ⟨rfl, nd3, q1, q2, q3⟩
    have Q1 := Lib.hid q1; clear q1
    have Q3 := Lib.hid q3; clear q2 q3
    go_wp2_with fail
    exact HK.out f (m', x.rsh 60) _ _ (by omega) ⟨hm1, hm2, HB.out, HD.out.1, HD.out.2, HE.out, ⟨nd3, Q1.out⟩, Lib.grownBy_trans H8.out Q3.out⟩ (F79_at _ _ _ _ rfl ⟨rfl, rfl, rfl, rfl, trivial⟩)
  · have HC := Lib.hid (right_any g x.V m x.dp x.tr nd1 w1 h3 h1 (by omega) ⟨by omega, by omega⟩ h7)
    have g4 : decide (-(m : Int) < -60) = false := decide_eq_false (by omega)
    have g5 : IntKind.u64.wrap (m : Int) = (m : Int) := IntWalk.u64_in _ (by omega)
    have g6 : IntKind.i64.wrap (m : Int) = (m : Int) := IntWalk.i64_in _ (by omega)
    have HE : Hid (x.rsh m = shr 2000 n ⟨V, dp, tr⟩) := Lib.hid (by
      rw [← H6.out]
      cases f with
      | zero => rfl
      | succ f => show _ = if 60 < m then _ else _; rw [if_neg hm])
    clear h7 h3
    go_wp2_with fail
    refine (HC.out).mono ?_
    rintro e w3 ⟨rfl, nd3, q1, q2, q3⟩
    have Q1 := Lib.hid q1; clear q1
    have Q2 := Lib.hid q2; clear q2
    have Q3 := Lib.hid q3; clear q3
    go_wp2
    go_end0
    rw [← HE.out]
    exact ⟨rfl, nd3, Q1.out, Q2.out, Lib.grownBy_trans H8.out Q3.out⟩
open Dc
set_option maxRecDepth 100000

def rupI (V : Nat) (tr : Bool) (p : Int) : Bool := if p < 0 then false else rupN V tr p.toNat
def RupPost (V : Nat) (tr : Bool) (p : Int) (w : World) (e : Ending) (w' : World) : Prop := e = .returned (.bool (rupI V tr p)) ∧ w' = w
set_option maxHeartbeats 1000000 in
theorem rup_any (g V : Nat) (p dp : Int) (tr : Bool) (nd : Nat) (w : World) (hp : -100000 ≤ p ∧ p ≤ 100000) (hT : Trm V nd) (h : Dst w g V dp tr nd) :
    Calls Tryd.prog 89 #[.pointer (some ⟨g, 0, none⟩), .int .i64 p] w (RupPost V tr p w) := by
  obtain ⟨dc, hB, hR⟩ := h
  obtain ⟨c0, c1, c2, c3⟩ := hB.cells
  have HB := Lib.hid hB; clear hB
  have hnd : nd ≤ 800 := hR.2.2
  have HR := Lib.hid hR; clear hR
  have HT := Lib.hid hT; clear hT
  by_cases hp0 : p < 0
  · have g1 : decide (p < 0) = true := decide_eq_true hp0
    have HE : Hid (rupI V tr p = false) := Lib.hid (by unfold rupI; rw [if_pos hp0])
    go_enter Tryd.func89, Tryd.ntmps89
    go_wp2
    go_ret
    exact ⟨retB HE.out.symm, rfl⟩
  obtain ⟨i, rfl⟩ : ∃ i : Nat, p = i := ⟨p.toNat, by omega⟩
  have hE : rupI V tr i = rupN V tr i := by unfold rupI; rw [if_neg hp0]; rfl
  have g1 : decide ((i : Int) < 0) = false := decide_eq_false hp0
  by_cases hi : nd ≤ i
  · have HE : Hid (rupI V tr i = false) := Lib.hid (by
      rw [hE]; unfold rupN
      have := HR.out.2.1 i hi
      rw [if_neg (by omega), this]; rfl)
    clear hE
    go_enter Tryd.func89, Tryd.ntmps89
    go_wp2
    go_ret
    exact ⟨retB HE.out.symm, rfl⟩
  have hi2 : i < nd := by omega
  have ci := HB.out.cell (show i < 800 by omega)
  rw [HR.out.1 i hi2] at ci
  have w1 : (i : Int) < 800 := by omega
  have hd9 := dgt_lt V i
  by_cases h5 : dgt V i = 5
  · rw [h5] at ci
    have ci : w.cell? ⟨g, i, none⟩ = some (.int .u8 53) := ci
    by_cases hn : i + 1 = nd
    · have g3 : ((i : Int) + 1 == nd) = true := by simp; omega
      have hz : tz V (i + 1) = true := (tz_iff _ _).2 fun j hj => HR.out.2.1 j (by omega)
      unfold rupN at hE
      rw [if_pos ⟨h5, hz⟩] at hE
      cases tr with
      | true =>
        have HE := Lib.hid hE
        clear hE h5 hn hz
        go_enter Tryd.func89, Tryd.ntmps89
        go_wp2
        go_ret
        exact ⟨retB HE.out.symm, rfl⟩
      | false =>
        rw [Bool.false_or] at hE
        by_cases hi0 : i = 0
        · subst hi0
          have HE := Lib.hid hE
          clear hE h5 hn hz
          go_enter Tryd.func89, Tryd.ntmps89
          go_wp2
          go_ret
          exact ⟨retB HE.out.symm, rfl⟩
        · obtain ⟨m, rfl⟩ : ∃ m, i = m + 1 := ⟨i - 1, by omega⟩
          have cm := HB.out.cell (show m < 800 by omega)
          rw [HR.out.1 m (by omega)] at cm
          have hm9 := dgt_lt V m
          obtain ⟨d, hd⟩ : ∃ d, dgt V m = d := ⟨_, rfl⟩
          rw [show decide (0 < m + 1) = true from decide_eq_true (by omega), Bool.true_and, Nat.add_sub_cancel, hd] at hE
          rw [hd] at cm hm9
          have w2 : IntKind.i64.wrap ((m : Int) + 1 - 1) = (m : Int) := by rw [show (m : Int) + 1 - 1 = m by omega]; exact IntWalk.i64_in _ (by omega)
          have w3 : IntKind.u8.wrap (((48 + d : Nat) : Int) - 48) = (d : Int) := by rw [show ((48 + d : Nat) : Int) - 48 = d by omega]; exact IntWalk.u8_in _ (by omega)
          have w4 : (m : Int) < 800 := by omega
          have w5 : decide ((m : Int) + 1 > 0) = true := decide_eq_true (by omega)
          have w6 : ((d : Int) % 2 != 0) = decide (d % 2 ≠ 0) := by
            rw [Bool.eq_iff_iff]; simp; omega
          have HE := Lib.hid hE
          have HW6 := Lib.hid w6
          obtain ⟨c, hc⟩ : ∃ c, 48 + d = c := ⟨_, rfl⟩
          rw [hc] at cm w3
          clear hE h5 hn hz hc hd w6
          go_enter Tryd.func89, Tryd.ntmps89
          go_wp2
          go_ret
          exact ⟨retB (HW6.out.trans HE.out.symm), rfl⟩
    · have g3 : ((i : Int) + 1 == nd) = false := by simp; omega
      have hz : ¬ tz V (i + 1) = true := fun hz => by
        have := (tz_iff _ _).1 hz (nd - 1) (by omega)
        exact HT.out.2 this
      unfold rupN at hE
      rw [if_neg (fun h => hz h.2), h5] at hE
      have HE := Lib.hid hE
      clear hE h5 hn hz
      go_enter Tryd.func89, Tryd.ntmps89
      go_wp2
      go_ret
      exact ⟨retB HE.out.symm, rfl⟩
  · unfold rupN at hE
    rw [if_neg (fun h => h5 h.1)] at hE
    obtain ⟨d, hd⟩ : ∃ d, dgt V i = d := ⟨_, rfl⟩
    rw [hd] at ci hE hd9 h5
    have w6 : (((48 + d : Nat) : Int) == 53) = false := beq_false_of_ne (by omega)
    have w7 : decide (((48 + d : Nat) : Int) ≥ 53) = decide (5 ≤ d) := by rw [Bool.eq_iff_iff]; simp; omega
    rw [← w7] at hE
    obtain ⟨c, hc⟩ : ∃ c, 48 + d = c := ⟨_, rfl⟩
    rw [hc] at ci w6 hE
    have HE := Lib.hid hE
    clear hE hd w7 hc
    go_enter Tryd.func89, Tryd.ntmps89
    go_wp2
    go_ret
    exact ⟨retB HE.out.symm, rfl⟩

def RintPost (x : St) (w : World) (e : Ending) (w' : World) : Prop := e = .returned (.int .u64 (rint x)) ∧ w' = w
theorem wrap64_mod (n : Nat) : IntKind.u64.wrap (n : Int) = ((n % Q64 : Nat) : Int) := by
  have h : n % Q64 < Q64 := Nat.mod_lt _ (by unfold Q64; omega)
  have e : IntKind.u64.wrap (n : Int) = (n : Int) % 18446744073709551616 := by simp [IntKind.wrap, IntKind.bits, IntKind.signed]
  rw [e]
  unfold Q64
  omega
theorem retU {a b : Nat} (h : a = b) : Ending.returned (.int .u64 (a : Int)) = .returned (.int .u64 b) := by rw [h]

set_option maxHeartbeats 1000000 in
theorem rint_any (g V : Nat) (dp : Int) (tr : Bool) (nd : Nat) (w : World) (hV : V < T8) (hp : -100000 ≤ dp ∧ dp ≤ 100000) (hT : Trm V nd) (h : Dst w g V dp tr nd) :
    Calls Tryd.prog 80 #[.pointer (some ⟨g, 0, none⟩)] w (RintPost ⟨V, dp, tr⟩ w) := by
  have HC := Lib.hid (rup_any g V dp dp tr nd w hp hT h)
  have HV := Lib.hid hV; clear hV
  obtain ⟨dc, hB, hR⟩ := h
  obtain ⟨c0, c1, c2, c3⟩ := hB.cells
  have HB := Lib.hid hB; clear hB
  have hnd : nd ≤ 800 := hR.2.2
  have HR := Lib.hid hR; clear hR
  clear c2 c3 hT
  by_cases h20 : 20 < dp
  · have g1 : decide (dp > 20) = true := decide_eq_true h20
    have HE : Hid (rint ⟨V, dp, tr⟩ = Q64 - 1) := Lib.hid (if_pos h20)
    clear h20 HC
    go_enter Tryd.func80, Tryd.ntmps80
    go_wp2
    go_ret
    exact ⟨retU (a := 18446744073709551615) (by rw [HE.out]; rfl), rfl⟩
  have g1 : decide (dp > 20) = false := decide_eq_false h20
  obtain ⟨D, hD⟩ : ∃ D, dp.toNat = D := ⟨_, rfl⟩
  have hD1 : 0 ≤ dp → dp = D := fun h => by omega
  have hD0 : dp < 0 → D = 0 := fun h => by omega
  have hD20 : D ≤ 20 := by omega
  obtain ⟨b, hb⟩ : ∃ b, rupI V tr dp = b := ⟨_, rfl⟩
  have hE : rint ⟨V, dp, tr⟩ = (pre V D + if b then 1 else 0) % Q64 := by
    unfold rint
    rw [if_neg h20]
    show (pre V dp.toNat + if rup ⟨V, dp, tr⟩ then 1 else 0) % Q64 = _
    rw [show rup ⟨V, dp, tr⟩ = b from hb, hD]
  have HE := Lib.hid hE
  unfold RupPost at HC
  rw [hb] at HC
  clear hE hb hD h20
  have HD1 := Lib.hid hD1
  have HD0 := Lib.hid hD0
  clear hD1 hD0
  have e64 := Q64_eq
  have HQ := Lib.hid e64; clear e64
  have hpb : ∀ i, pre V i % Q64 < Q64 := fun i => Nat.mod_lt _ (by rw [HQ.out]; omega)
  have HPB := Lib.hid hpb; clear hpb
  go_enter Tryd.func80, Tryd.ntmps80
  go_wp2
  rename_i KK hKK
  have HRest : ∀ (i : Nat) (a' : Act) (w' : World), ((i = D ∨ (nd ≤ i ∧ i ≤ D)) ∧ w' = w) → (F80 g i (pre V i % Q64) fun k => a'.tmps.getD k undef) = a' → KK a' w' := by
    rintro i a' w' ⟨hi, rfl⟩ he
    rw [← he]
    apply hKK
    clear hKK he
    generalize (fun k => a'.tmps.getD k undef) = u
    rw [F80_lit]
    obtain ⟨x, hx⟩ : ∃ x, pre V i % Q64 = x := ⟨_, rfl⟩
    rw [hx]
    have HX := Lib.hid hx; clear hx
    have HI := Lib.hid hi; clear hi
    go_wp2
    rename_i KK2 hKK2
    have HR2 : ∀ (a' : Act) (w1 : World), w1 = w' → (F80 g D (pre V D % Q64) fun k => a'.tmps.getD k undef) = a' → KK2 a' w1 := by
      rintro a' w1 rfl he
      rw [← he]
      apply hKK2
      clear hKK2 he
      generalize (fun k => a'.tmps.getD k undef) = u1
      rw [F80_lit]
      obtain ⟨y, hy⟩ : ∃ y, pre V D % Q64 = y := ⟨_, rfl⟩
      rw [hy]
      have HY := Lib.hid hy; clear hy
      cases b with
      | true =>
        have w1 : IntKind.u64.wrap ((y : Int) + 1) = (((pre V D + 1) % Q64 : Nat) : Int) := by
          have := wrap64_mod (y + 1)
          rw [← HY.out, Nat.mod_add_mod] at this
          rw [← HY.out]; exact this
        have HW := Lib.hid w1; clear w1
        go_wp2_with fail
        refine (HC.out).mono ?_
        rintro e w3 ⟨rfl, rfl⟩
        go_wp2
        go_ret
        exact ⟨by rw [HE.out]; exact congrArg (fun z => Ending.returned (.int .u64 z)) HW.out, rfl⟩
      | false =>
        go_wp2_with fail
        refine (HC.out).mono ?_
        rintro e w3 ⟨rfl, rfl⟩
        go_wp2
        go_ret
        exact ⟨by rw [HE.out]; exact retU HY.out.symm, rfl⟩
    have HR2 := Lib.hid HR2
    clear hKK2
    refine wp_loop_x (fun i : Nat => F80 g i (pre V i % Q64)) (fun n i w1 => n = D - i ∧ (i = D ∨ (nd ≤ i ∧ i ≤ D)) ∧ w1 = w') (D - i) i ⟨rfl, HI.out, rfl⟩ (F80_at _ _ _ rfl ⟨rfl, rfl, by rw [HX.out]; rfl, trivial⟩) ?_
    rintro n j u2 w2 ⟨hn, hj, rfl⟩ K hK
    have HN := Lib.hid hn; clear hn
    have HK := Lib.hid hK; clear hK
    rw [F80_lit]
    obtain ⟨y, hy⟩ : ∃ y, pre V j % Q64 = y := ⟨_, rfl⟩
    rw [hy]
    by_cases hlt : (j : Int) < dp
    · have hjD : j ≠ D := by
        intro e
        by_cases h0 : 0 ≤ dp
        · have := HD1.out h0; omega
        · omega
      have hjn : nd ≤ j ∧ j ≤ D := hj.resolve_left hjD
      have hp : pre V (j + 1) = pre V j * 10 := by
        have := pre_succ V j
        rw [HR.out.2.1 j hjn.1] at this
        omega
      obtain ⟨z, hz⟩ : ∃ z, pre V (j + 1) % Q64 = z := ⟨_, rfl⟩
      have w1 : IntKind.u64.wrap ((y : Int) * 10) = (z : Int) := by
        have := wrap64_mod (y * 10)
        rw [← hy, Nat.mod_mul_mod, ← hp, hz] at this
        rw [← hy]; exact this
      have g2 : decide ((j : Int) < dp) = true := decide_eq_true hlt
      have w2' : IntKind.i64.wrap ((j : Int) + 1) = (j : Int) + 1 := IntWalk.i64_in _ (by omega)
      have HZ := Lib.hid hz; clear hz
      have HJ : Hid (nd ≤ j + 1 ∧ j + 1 ≤ D) := Lib.hid ⟨by omega, by omega⟩
      clear hp hy hj hjn hjD hlt
      go_wp2
      exact HK.out (D - (j + 1)) (j + 1) _ _ (by have := HN.out; have := HJ.out; omega) ⟨rfl, .inr HJ.out, rfl⟩ (F80_at _ _ _ rfl ⟨rfl, rfl, by rw [HZ.out]; rfl, trivial⟩)
    · have hjD : j = D := by
        rcases hj with h | ⟨_, h⟩
        · exact h
        · by_cases h0 : 0 ≤ dp
          · have := HD1.out h0; omega
          · have := HD0.out (by omega); omega
      have g2 : decide ((j : Int) < dp) = false := decide_eq_false hlt
      have HJ := Lib.hid hjD
      have HY := Lib.hid hy
      clear hjD hj hy hlt
      go_wp2
      exact HR2.out _ _ rfl (F80_at _ _ _ rfl ⟨rfl, by rw [← HJ.out]; rfl, by rw [← HJ.out, HY.out]; rfl, trivial⟩)
  have HRest := Lib.hid HRest
  clear hKK
  refine wp_loop_x (fun i : Nat => F80 g i (pre V i % Q64)) (fun n i w1 => n = D - i ∧ i ≤ D ∧ i ≤ nd ∧ w1 = w) D 0 ⟨rfl, Nat.zero_le _, Nat.zero_le _, rfl⟩ (F80_at _ _ _ rfl ⟨rfl, rfl, by rw [pre_zero HV.out, Nat.zero_mod]; rfl, trivial⟩) ?_
  rintro n j u2 w2 ⟨hn, hj, hjn, rfl⟩ K hK
  have HN := Lib.hid hn; clear hn
  have HK := Lib.hid hK; clear hK
  rw [F80_lit]
  obtain ⟨y, hy⟩ : ∃ y, pre V j % Q64 = y := ⟨_, rfl⟩
  rw [hy]
  by_cases hlt : (j : Int) < dp
  · have g2 : decide ((j : Int) < dp) = true := decide_eq_true hlt
    have hjD : j < D := by have := HD1.out (by omega); omega
    by_cases hnd2 : j < nd
    · have g3 : decide ((j : Int) < nd) = true := decide_eq_true (by omega)
      have hp := pre_succ V j
      have cj := HB.out.cell (show j < 800 by omega)
      rw [HR.out.1 j hnd2] at cj
      have hd9 := dgt_lt V j
      obtain ⟨d, hd⟩ : ∃ d, dgt V j = d := ⟨_, rfl⟩
      obtain ⟨z, hz⟩ : ∃ z, pre V (j + 1) % Q64 = z := ⟨_, rfl⟩
      rw [hd] at cj hp hd9
      have w1 : IntKind.u64.wrap ((y : Int) * 10) = ((y * 10 % Q64 : Nat) : Int) := wrap64_mod (y * 10)
      have w3 : IntKind.u8.wrap (((48 + d : Nat) : Int) - 48) = (d : Int) := by rw [show ((48 + d : Nat) : Int) - 48 = d by omega]; exact IntWalk.u8_in _ (by omega)
      have w4 : IntKind.u64.wrap (d : Int) = (d : Int) := IntWalk.u64_in _ (by omega)
      have w5 : IntKind.u64.wrap (((y * 10 % Q64 : Nat) : Int) + d) = (z : Int) := by
        have e : (y * 10 % Q64 + d) % Q64 = z := by
          rw [Nat.mod_add_mod, ← hz, hp, ← hy, Nat.add_mod, Nat.mod_mul_mod, ← Nat.add_mod]
        have := wrap64_mod (y * 10 % Q64 + d)
        rw [e] at this
        exact this
      obtain ⟨y1, hy1⟩ : ∃ z, y * 10 % Q64 = z := ⟨_, rfl⟩
      rw [hy1] at w1 w5
      have w2' : IntKind.i64.wrap ((j : Int) + 1) = (j : Int) + 1 := IntWalk.i64_in _ (by omega)
      have w6 : (j : Int) < 800 := by omega
      obtain ⟨c, hc⟩ : ∃ c, 48 + d = c := ⟨_, rfl⟩
      rw [hc] at cj w3
      have HZ := Lib.hid hz; clear hz
      clear hp hy hy1 hd hc hlt
      go_wp2
      exact HK.out (D - (j + 1)) (j + 1) _ _ (by have := HN.out; omega) ⟨rfl, by omega, by omega, rfl⟩ (F80_at _ _ _ rfl ⟨rfl, rfl, by rw [HZ.out]; rfl, trivial⟩)
    · have g3 : decide ((j : Int) < nd) = false := decide_eq_false (by omega)
      have HY := Lib.hid hy
      clear hy hlt
      go_wp2
      exact HRest.out j _ _ ⟨.inr ⟨by omega, by omega⟩, rfl⟩ (F80_at _ _ _ rfl ⟨rfl, rfl, by rw [HY.out]; rfl, trivial⟩)
  · have g2 : decide ((j : Int) < dp) = false := decide_eq_false hlt
    have hjD : j = D := by
      by_cases h0 : 0 ≤ dp
      · have := HD1.out h0; omega
      · have := HD0.out (by omega); omega
    have HY := Lib.hid hy
    have HJ := Lib.hid hjD
    clear hy hlt hjD
    go_wp2
    exact HRest.out j _ _ ⟨.inl HJ.out, rfl⟩ (F80_at _ _ _ rfl ⟨rfl, rfl, by rw [HY.out]; rfl, trivial⟩)
end Go.Proofs.YtblphppdfiipfaaDoor
