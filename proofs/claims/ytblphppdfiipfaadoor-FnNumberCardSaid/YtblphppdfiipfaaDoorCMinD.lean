/- minify.Number: forms with a point. Conditions: none. -/
import Derived.Test.YtblphppdfiipfaaDoorCMinC
namespace Go.Proofs.YtblphppdfiipfaaDoor
open Go.RowKit
set_option maxRecDepth 100000


set_option maxHeartbeats 4000000 in
theorem n9_c4a (g N cap q k st e n lE : Nat) (c d : Nat → Nat) (ex nx E : Int) (w : World) (K : Act → World → Prop) (Q : Exit → Act → World → Prop) (a : Act)
    (ha : (F9m g N cap st k e ex n E (E - n) (lenI (E - n)) lE fun k => a.tmps.getD k undef) = a) (hI : In9 c N q k ex) (hB : Blk w g N c) (hc : N ≤ cap) (hKE : KE c q k st e n nx d) (hk : ∃ m, st = k ∧ K1 c q k e m ∧ n = e - m ∧ nx = (k : Int) - m + 1 ∧ d = fun j => c (m + j)) (hE : E = nx + ex) (hnE : E < n) (hlE : E < -(lenI (E - n) : Int))
    (hfin : ∀ (S e' : Nat) (c' : Nat → Nat) (a : Act) (w' : World), Blk w' g N c' → w.grownBy w' (some g) → S < e' → e' ≤ N → Res (fun j => c' (S + j)) (e' - S) n d E → (F9z g N cap S e' fun k => a.tmps.getD k undef) = a → K a w') :
    Code.wp Tryd.prog (c9 [false, true, true, true, true, true, true]) (Exit.then K Q) a w := by
  obtain ⟨hE1, hE2, hne, heN, hn100, hn1, he1, _, _⟩ := room0 hI hKE hE
  have hDg : Dg d n := by obtain ⟨a0, h1, _⟩ := hKE.shp hI; exact h1.dg
  have hN100 := hI.n100
  have hqN := hI.qN
  have hkq := hI.kq
  obtain ⟨x, hx⟩ : ∃ x : Nat, E - n = -(x : Int) := ⟨(n - E).toNat, by omega⟩
  have hx5 : x < 100000 := by omega
  have hlen : lenI (-(x : Int)) = 1 + dl x := by
    unfold lenI
    rw [if_pos (by omega)]; congr 2; omega
  rw [hx, hlen] at ha hlE
  rw [← ha]
  clear ha hlen
  generalize (fun k => a.tmps.getD k undef) = u
  obtain ⟨lX, hlX⟩ : ∃ l, l = 1 + dl x := ⟨_, rfl⟩
  rw [← hlX] at hlE
  conv => arg 2; whnf
  rw [F9m_lit, sg825_36, sg825_63, sg825_677, ← hlX]
  have hlX1 : lX ≤ 1 + dl x := by omega
  have hlX2 : 1 + dl x ≤ lX := by omega
  have HLX := Lib.hid hlX
  clear hlX
  have HX : Hid (E = n - x) := Lib.hid (by omega)
  have HB := Lib.hid hB
  have HI := Lib.hid hI
  have HE := Lib.hid hE
  have HDG := Lib.hid hDg
  obtain ⟨m, a1, a2, a3, a4, a5⟩ := hk
  have hEE : nx + ex < n := by omega
  have hEE2 : nx + ex < -(lX : Int) := by omega
  have hEE3 : nx + ex - n ≤ -(x : Int) ∧ -(x : Int) ≤ nx + ex - n := by omega
  obtain ⟨hEE3, hEE4⟩ := hEE3
  clear hx hB hE hKE hDg
  subst a1
  have b1 := a2.hm
  have b2 := a2.he
  have b4 := a2.hq
  have hroom := hI.room
  have A2 := Lib.hid a2
  have A3 := Lib.hid a3
  have A4 := Lib.hid a4
  have A5 := Lib.hid a5
  have hne : n ≤ e := by omega
  have hnm : (e : Int) - n = m := by omega
  clear hnm
  clear a2 a5
  by_cases hw : st + n + (1 + lX) < N
  · have g9 : decide ((st : Int) + n + (1 + lX) < N) = true := decide_eq_true (by omega)
    have A3z : Hid ((e : Int) - n = m) := Lib.hid (by omega)
    clear a3 a4
    refine wp_seq_h ?_
    intro K2 HK2
    go_wp2
    apply HK2.out
    clear HK2 K2
    refine wp_seq_h ?_
    intro K2 HK2
    go_wp2
    apply HK2.out
    clear HK2 K2
    refine wp_seq_h ?_
    intro K2 HK2
    go_wp2
    apply HK2.out
    clear HK2 K2
    refine wp_seq_h ?_
    intro K2 HK2
    go_wp2
    apply HK2.out
    clear HK2 K2
    refine wp_seq_h ?_
    intro K2 HK2
    go_wp2
    apply HK2.out
    clear HK2 K2
    refine wp_seq_k ?_
    intro K2 hK2
    have NX : Hid (∀ (S e' y : Nat) (c1 : Nat → Nat) (a : Act) (w1 : World), Blk w1 g N c1 → w.grownBy w1 (some g) → y < 100000 → e' + 2 + dl y ≤ N → (∃ q0 k0 a0, e' = S + q0 ∧ ShpC (fun j => c1 (S + j)) q0 k0 a0 n d ∧ (1 < k0 → c1 S ≠ 48) ∧ E = (k0 : Int) - a0 - y) → (F9v g N cap S e' (-(y : Int)) (1 + dl y) fun k => a.tmps.getD k undef) = a → K2 a w1) :=
      Lib.hid fun S e' y c1 a w1 hB1 hG1 hy hr hSh hf => hK2 _ _ (wp_code (c := c9 [false, true, true, true, true, true, true, true, true, true, true, true, true]) (by kernel_rfl) (n9_c4t g N cap S e' y c1 w1 K Q a hf hB1 hN100 hy hr (fun e2 c2 a2 w2 hB2 hG2 hT hf2 => by
        obtain ⟨q0, k0, a0, hq0, hS0, hk0, hE0⟩ := hSh
        rw [hq0] at hT
        have hR := res_neg hS0 hk0 hT hE0 hy
        exact hfin S e2 c2 a2 w2 hB2 (Lib.grownBy_trans hG1 hG2) hR.1 (by have := hT.2.1; omega) hR.2 hf2)))
    clear hK2 hfin
    have z1 : cap ≠ st := by omega
    have z2 : (st : Int) ≤ N := by omega
    have z3 : IntKind.i64.wrap ((e : Int) - n) = (m : Int) := by rw [A3z.out]; exact IntWalk.i64_in _ (by omega)
    have z5 : (e : Int) ≤ cap := by omega
    have z6 : (m : Int) ≤ e := by omega
    have z9 : cap ≠ m := by omega
    go_wp2
    go_still_tail 9, (by kernel_rfl)
    refine wpList_copy_blk rfl (.tmp 758) (.tmp 764) rfl g N c HB.out _ _ _ _ _ _ rfl rfl n (by show _ = min _ _; have := A3.out; omega) (by have := A3.out; omega) (by have := A3.out; omega) ?_
    intro w2 hB2 hG2
    go_wp2
    refine NX.out st (st + n) x _ _ _ hB2.out ⟨hG2.out.os, hG2.out.tape, hG2.out.output, hG2.out.size, hG2.out.block⟩ hx5 (by omega) ⟨n, n, 0, rfl, ?_, fun _ => ?_, by have := HX.out; omega⟩ (F9v_at _ _ _ _ _ _ _ rfl ⟨rfl, rfl, rfl, rfl, vi (by omega), rfl, vi (by omega), trivial⟩)
    · refine shp_int (z := 0) HDG.out (fun j hj => ?_) fun j hj => absurd hj (by omega)
      rw [A5.out]
      show cpy c st m n (st + j) = c (m + j)
      unfold cpy
      rw [if_pos (by omega)]; congr 1; omega
    · have h0 := HDG.out.2.1
      rw [A5.out] at h0
      show cpy c st m n st ≠ 48
      unfold cpy
      rw [if_pos (by omega), show st - st + m = m + 0 by omega]; exact h0
  · have g9 : decide ((st : Int) + n + (1 + lX) < N) = false := decide_eq_false (by omega)
    have hdx := dl_cases x hx5
    have hdy := dl_cases ex.natAbs (by omega)
    have hex0 : ex < 0 := by omega
    clear hdx hdy a3 a4
    refine wp_seq_h ?_
    intro K2 HK2
    go_wp2
    apply HK2.out
    clear HK2 K2
    refine wp_seq_h ?_
    intro K2 HK2
    go_wp2
    apply HK2.out
    clear HK2 K2
    refine wp_seq_h ?_
    intro K2 HK2
    go_wp2
    apply HK2.out
    clear HK2 K2
    refine wp_seq_h ?_
    intro K2 HK2
    go_wp2
    apply HK2.out
    clear HK2 K2
    refine wp_seq_h ?_
    intro K2 HK2
    go_wp2
    apply HK2.out
    clear HK2 K2
    refine wp_seq_k ?_
    intro K2 hK2
    have NX : Hid (∀ (S e' y : Nat) (c1 : Nat → Nat) (a : Act) (w1 : World), Blk w1 g N c1 → w.grownBy w1 (some g) → y < 100000 → e' + 2 + dl y ≤ N → (∃ q0 k0 a0, e' = S + q0 ∧ ShpC (fun j => c1 (S + j)) q0 k0 a0 n d ∧ (1 < k0 → c1 S ≠ 48) ∧ E = (k0 : Int) - a0 - y) → (F9v g N cap S e' (-(y : Int)) (1 + dl y) fun k => a.tmps.getD k undef) = a → K2 a w1) :=
      Lib.hid fun S e' y c1 a w1 hB1 hG1 hy hr hSh hf => hK2 _ _ (wp_code (c := c9 [false, true, true, true, true, true, true, true, true, true, true, true, true]) (by kernel_rfl) (n9_c4t g N cap S e' y c1 w1 K Q a hf hB1 hN100 hy hr (fun e2 c2 a2 w2 hB2 hG2 hT hf2 => by
        obtain ⟨q0, k0, a0, hq0, hS0, hk0, hE0⟩ := hSh
        rw [hq0] at hT
        have hR := res_neg hS0 hk0 hT hE0 hy
        exact hfin S e2 c2 a2 w2 hB2 (Lib.grownBy_trans hG1 hG2) hR.1 (by have := hT.2.1; omega) hR.2 hf2)))
    clear hK2 hfin
    obtain ⟨y, hy⟩ : ∃ y : Nat, ex = -(y : Int) := ⟨ex.natAbs, by omega⟩
    have hy5 : y < 100000 := by omega
    have hry : e + 2 + dl y ≤ N := by
      have : ex.natAbs = y := by omega
      rw [this] at hroom
      omega
    have hl : lenI ex = 1 + dl y := by
      unfold lenI
      rw [if_pos (by omega), show ex.natAbs = y by omega]
    have C := leni_any ex w (by omega) (by omega)
    rw [hl] at C
    have CC := Lib.hid C
    have HY := Lib.hid hy
    have hex1 : -100000 < ex := by omega
    have hex2 : ex < 100000 := by omega
    clear hl hy hroom C
    go_wp2_with fail
    refine CC.out.mono ?_
    rintro e1 w' ⟨rfl, rfl⟩
    go_wp2
    refine NX.out st e y c _ _ HB.out (World.grownBy.refl _ _) hy5 hry ⟨e - st, 0, m - 1 - st, by omega, ?_, fun h => absurd h (by omega), by have := HY.out; have := HE.out; have := A4.out; omega⟩ (F9v_at _ _ _ _ _ _ _ rfl ⟨rfl, rfl, rfl, rfl, rfl, vi (by have := HY.out; omega), rfl, trivial⟩)
    have hS := shp_pt (b := fun j => c (st + j)) (n := n) (z := m - 1 - st) HDG.out (by show c (st + 0) = 46; exact HI.out.dot (by omega)) (fun j hj => by
      show c (st + (1 + j)) = 48
      exact A2.out.z _ (by omega) (by omega)) (fun j hj => by
      rw [A5.out]
      show c (st + (1 + (m - 1 - st) + j)) = c (m + j)
      congr 1; omega)
    rw [show 1 + (m - 1 - st) + n = e - st by have := A3.out; omega] at hS
    exact hS

set_option maxHeartbeats 4000000 in
theorem n9_c4b (g N cap q k st e n lE : Nat) (c d : Nat → Nat) (ex nx E : Int) (w : World) (K : Act → World → Prop) (Q : Exit → Act → World → Prop) (a : Act)
    (ha : (F9m g N cap st k e ex n E (E - n) (lenI (E - n)) lE fun k => a.tmps.getD k undef) = a) (hI : In9 c N q k ex) (hB : Blk w g N c) (_hc : N ≤ cap) (hKE : KE c q k st e n nx d) (hk : st = 0 ∧ K2 c q k n ∧ e = n ∧ nx = k ∧ d = fun j => c j) (hE : E = nx + ex) (hnE : E < n) (hlE : E < -(lenI (E - n) : Int))
    (hfin : ∀ (S e' : Nat) (c' : Nat → Nat) (a : Act) (w' : World), Blk w' g N c' → w.grownBy w' (some g) → S < e' → e' ≤ N → Res (fun j => c' (S + j)) (e' - S) n d E → (F9z g N cap S e' fun k => a.tmps.getD k undef) = a → K a w') :
    Code.wp Tryd.prog (c9 [false, true, true, true, true, true, true]) (Exit.then K Q) a w := by
  obtain ⟨hE1, hE2, hne, heN, hn100, hn1, he1, _, _⟩ := room0 hI hKE hE
  have hDg : Dg d n := by obtain ⟨a0, h1, _⟩ := hKE.shp hI; exact h1.dg
  have hN100 := hI.n100
  have hqN := hI.qN
  have hkq := hI.kq
  obtain ⟨x, hx⟩ : ∃ x : Nat, E - n = -(x : Int) := ⟨(n - E).toNat, by omega⟩
  have hx5 : x < 100000 := by omega
  have hlen : lenI (-(x : Int)) = 1 + dl x := by
    unfold lenI
    rw [if_pos (by omega)]; congr 2; omega
  rw [hx, hlen] at ha hlE
  rw [← ha]
  clear ha hlen
  generalize (fun k => a.tmps.getD k undef) = u
  obtain ⟨lX, hlX⟩ : ∃ l, l = 1 + dl x := ⟨_, rfl⟩
  rw [← hlX] at hlE
  conv => arg 2; whnf
  rw [F9m_lit, sg825_36, sg825_63, sg825_677, ← hlX]
  have hlX1 : lX ≤ 1 + dl x := by omega
  have hlX2 : 1 + dl x ≤ lX := by omega
  have HLX := Lib.hid hlX
  clear hlX
  have HX : Hid (E = n - x) := Lib.hid (by omega)
  have HB := Lib.hid hB
  have HI := Lib.hid hI
  have HE := Lib.hid hE
  have HDG := Lib.hid hDg
  obtain ⟨a1, a2, a3, a4, a5⟩ := hk
  have hEE : nx + ex < n := by omega
  have hEE2 : nx + ex < -(lX : Int) := by omega
  have hEE3 : nx + ex - n ≤ -(x : Int) ∧ -(x : Int) ≤ nx + ex - n := by omega
  obtain ⟨hEE3, hEE4⟩ := hEE3
  clear hx hB hE hKE hDg
  subst a1
  have b1 := a2.hn
  have b2 := a2.h1
  have g0 : ((k : Int) == 0) = false := beq_false_of_ne (by omega)
  have hroom := hI.room
  have A2 := Lib.hid a2
  have A3 := Lib.hid a3
  have A4 := Lib.hid a4
  have A5 := Lib.hid a5
  clear a2 a5
  have hw : e - 1 + (1 + lX) < N := by
    have hdx := dl_cases x hx5
    have hdy := dl_cases ex.natAbs (by omega)
    omega
  have g9 : decide ((e : Int) - 1 + (1 + lX) < N) = true := decide_eq_true (by omega)
  clear a3 a4
  refine wp_seq_h ?_
  intro K2 HK2
  go_wp2
  apply HK2.out
  clear HK2 K2
  refine wp_seq_h ?_
  intro K2 HK2
  go_wp2
  apply HK2.out
  clear HK2 K2
  refine wp_seq_h ?_
  intro K2 HK2
  go_wp2
  apply HK2.out
  clear HK2 K2
  refine wp_seq_h ?_
  intro K2 HK2
  go_wp2
  apply HK2.out
  clear HK2 K2
  refine wp_seq_h ?_
  intro K2 HK2
  go_wp2
  apply HK2.out
  clear HK2 K2
  refine wp_seq_k ?_
  intro K2 hK2
  have NX : Hid (∀ (S e' y : Nat) (c1 : Nat → Nat) (a : Act) (w1 : World), Blk w1 g N c1 → w.grownBy w1 (some g) → y < 100000 → e' + 2 + dl y ≤ N → (∃ q0 k0 a0, e' = S + q0 ∧ ShpC (fun j => c1 (S + j)) q0 k0 a0 n d ∧ (1 < k0 → c1 S ≠ 48) ∧ E = (k0 : Int) - a0 - y) → (F9v g N cap S e' (-(y : Int)) (1 + dl y) fun k => a.tmps.getD k undef) = a → K2 a w1) :=
    Lib.hid fun S e' y c1 a w1 hB1 hG1 hy hr hSh hf => hK2 _ _ (wp_code (c := c9 [false, true, true, true, true, true, true, true, true, true, true, true, true]) (by kernel_rfl) (n9_c4t g N cap S e' y c1 w1 K Q a hf hB1 hN100 hy hr (fun e2 c2 a2 w2 hB2 hG2 hT hf2 => by
      obtain ⟨q0, k0, a0, hq0, hS0, hk0, hE0⟩ := hSh
      rw [hq0] at hT
      have hR := res_neg hS0 hk0 hT hE0 hy
      exact hfin S e2 c2 a2 w2 hB2 (Lib.grownBy_trans hG1 hG2) hR.1 (by have := hT.2.1; omega) hR.2 hf2)))
  clear hK2 hfin
  have b3 : e ≤ k := by have := A3.out; omega
  go_wp2
  refine NX.out 0 e x c _ _ HB.out (World.grownBy.refl _ _) hx5 (by omega) ⟨n, n, 0, by have := A3.out; omega, ?_, fun _ => ?_, by have := HX.out; omega⟩ (F9v_at _ _ _ _ _ _ _ rfl ⟨rfl, rfl, rfl, rfl, rfl, rfl, vi (by omega), trivial⟩)
  · refine shp_int (z := 0) HDG.out (fun j hj => ?_) fun j hj => absurd hj (by omega)
    rw [A5.out]
    show c (0 + j) = c j
    rw [Nat.zero_add]
  · have h0 := HDG.out.2.1
    rw [A5.out] at h0
    exact h0

set_option maxHeartbeats 4000000 in
theorem n9_c4c (g N cap q k st e n lE : Nat) (c d : Nat → Nat) (ex nx E : Int) (w : World) (K : Act → World → Prop) (Q : Exit → Act → World → Prop) (a : Act)
    (ha : (F9m g N cap st k e ex n E (E - n) (lenI (E - n)) lE fun k => a.tmps.getD k undef) = a) (hI : In9 c N q k ex) (hB : Blk w g N c) (hc : N ≤ cap) (hKE : KE c q k st e n nx d) (hk : st = 0 ∧ K3 c q k e ∧ n = e - 1 ∧ nx = k ∧ d = fun j => c (dpos k j)) (hE : E = nx + ex) (hnE : E < n) (hlE : E < -(lenI (E - n) : Int))
    (hfin : ∀ (S e' : Nat) (c' : Nat → Nat) (a : Act) (w' : World), Blk w' g N c' → w.grownBy w' (some g) → S < e' → e' ≤ N → Res (fun j => c' (S + j)) (e' - S) n d E → (F9z g N cap S e' fun k => a.tmps.getD k undef) = a → K a w') :
    Code.wp Tryd.prog (c9 [false, true, true, true, true, true, true]) (Exit.then K Q) a w := by
  obtain ⟨hE1, hE2, hne, heN, hn100, hn1, he1, _, _⟩ := room0 hI hKE hE
  have hDg : Dg d n := by obtain ⟨a0, h1, _⟩ := hKE.shp hI; exact h1.dg
  have hN100 := hI.n100
  have hqN := hI.qN
  have hkq := hI.kq
  obtain ⟨x, hx⟩ : ∃ x : Nat, E - n = -(x : Int) := ⟨(n - E).toNat, by omega⟩
  have hx5 : x < 100000 := by omega
  have hlen : lenI (-(x : Int)) = 1 + dl x := by
    unfold lenI
    rw [if_pos (by omega)]; congr 2; omega
  rw [hx, hlen] at ha hlE
  rw [← ha]
  clear ha hlen
  generalize (fun k => a.tmps.getD k undef) = u
  obtain ⟨lX, hlX⟩ : ∃ l, l = 1 + dl x := ⟨_, rfl⟩
  rw [← hlX] at hlE
  conv => arg 2; whnf
  rw [F9m_lit, sg825_36, sg825_63, sg825_677, ← hlX]
  have hlX1 : lX ≤ 1 + dl x := by omega
  have hlX2 : 1 + dl x ≤ lX := by omega
  have HLX := Lib.hid hlX
  clear hlX
  have HX : Hid (E = n - x) := Lib.hid (by omega)
  have HB := Lib.hid hB
  have HI := Lib.hid hI
  have HE := Lib.hid hE
  have HDG := Lib.hid hDg
  obtain ⟨a1, a2, a3, a4, a5⟩ := hk
  have hEE : nx + ex < n := by omega
  have hEE2 : nx + ex < -(lX : Int) := by omega
  have hEE3 : nx + ex - n ≤ -(x : Int) ∧ -(x : Int) ≤ nx + ex - n := by omega
  obtain ⟨hEE3, hEE4⟩ := hEE3
  clear hx hB hE hKE hDg
  subst a1
  have b1 := a2.h1
  have b2 := a2.he
  have b4 := a2.hq
  have g0 : ((k : Int) == 0) = false := beq_false_of_ne (by omega)
  have hroom := hI.room
  have A2 := Lib.hid a2
  have A3 := Lib.hid a3
  have A4 := Lib.hid a4
  have A5 := Lib.hid a5
  clear a2 a5
  by_cases hw : e - 1 + (1 + lX) < N
  · have g9 : decide ((e : Int) - 1 + (1 + lX) < N) = true := decide_eq_true (by omega)
    clear a3 a4
    refine wp_seq_h ?_
    intro K2 HK2
    go_wp2
    apply HK2.out
    clear HK2 K2
    refine wp_seq_h ?_
    intro K2 HK2
    go_wp2
    apply HK2.out
    clear HK2 K2
    refine wp_seq_h ?_
    intro K2 HK2
    go_wp2
    apply HK2.out
    clear HK2 K2
    refine wp_seq_h ?_
    intro K2 HK2
    go_wp2
    apply HK2.out
    clear HK2 K2
    refine wp_seq_h ?_
    intro K2 HK2
    go_wp2
    apply HK2.out
    clear HK2 K2
    refine wp_seq_k ?_
    intro K2 hK2
    have NX : Hid (∀ (S e' y : Nat) (c1 : Nat → Nat) (a : Act) (w1 : World), Blk w1 g N c1 → w.grownBy w1 (some g) → y < 100000 → e' + 2 + dl y ≤ N → (∃ q0 k0 a0, e' = S + q0 ∧ ShpC (fun j => c1 (S + j)) q0 k0 a0 n d ∧ (1 < k0 → c1 S ≠ 48) ∧ E = (k0 : Int) - a0 - y) → (F9v g N cap S e' (-(y : Int)) (1 + dl y) fun k => a.tmps.getD k undef) = a → K2 a w1) :=
      Lib.hid fun S e' y c1 a w1 hB1 hG1 hy hr hSh hf => hK2 _ _ (wp_code (c := c9 [false, true, true, true, true, true, true, true, true, true, true, true, true]) (by kernel_rfl) (n9_c4t g N cap S e' y c1 w1 K Q a hf hB1 hN100 hy hr (fun e2 c2 a2 w2 hB2 hG2 hT hf2 => by
        obtain ⟨q0, k0, a0, hq0, hS0, hk0, hE0⟩ := hSh
        rw [hq0] at hT
        have hR := res_neg hS0 hk0 hT hE0 hy
        exact hfin S e2 c2 a2 w2 hB2 (Lib.grownBy_trans hG1 hG2) hR.1 (by have := hT.2.1; omega) hR.2 hf2)))
    clear hK2 hfin
    have z1 : cap ≠ k := by omega
    have z2 : (k : Int) ≤ N := by omega
    have z3 : IntKind.i64.wrap ((k : Int) + 1) = (k : Int) + 1 := IntWalk.i64_in _ (by omega)
    have z4 : cap ≠ k + 1 := by omega
    have z5 : (e : Int) ≤ cap := by omega
    have z6 : (k : Int) + 1 ≤ e := by omega
    have z7 : (0 : Int) ≤ (k : Int) + 1 := by omega
    have z8 : ((k : Int) + 1).toNat = k + 1 := by omega
    go_wp2
    go_still_tail 8, (by kernel_rfl)
    refine wpList_copy_blk rfl (.tmp 771) (.tmp 776) rfl g N c HB.out _ _ _ _ _ _ rfl rfl (e - (k + 1)) (by show _ = min _ _; omega) (by omega) (by omega) ?_
    intro w2 hB2 hG2
    go_wp2
    refine NX.out 0 (e - 1) x _ _ _ hB2.out ⟨hG2.out.os, hG2.out.tape, hG2.out.output, hG2.out.size, hG2.out.block⟩ hx5 (by omega) ⟨n, n, 0, by have := A3.out; omega, ?_, fun _ => ?_, by have := HX.out; omega⟩ (F9v_at _ _ _ _ _ _ _ rfl ⟨rfl, rfl, rfl, rfl, vi (by omega), rfl, vi (by omega), trivial⟩)
    · refine shp_int (z := 0) HDG.out (fun j hj => ?_) fun j hj => absurd hj (by omega)
      rw [A5.out]
      have := A3.out
      show cpy c k (k + 1) (e - (k + 1)) (0 + j) = c (dpos k j)
      unfold cpy dpos
      by_cases hjk : j < k
      · rw [if_neg (by omega), if_pos hjk]; congr 1; omega
      · rw [if_pos (by omega), if_neg hjk]; congr 1; omega
    · have h0 := HDG.out.2.1
      rw [A5.out] at h0
      unfold dpos at h0
      simp only [show (0 : Nat) < k by omega, if_true] at h0
      show cpy c k (k + 1) (e - (k + 1)) 0 ≠ 48
      unfold cpy
      rw [if_neg (by omega)]; exact h0
  · have g9 : decide ((e : Int) - 1 + (1 + lX) < N) = false := decide_eq_false (by omega)
    have hdx := dl_cases x hx5
    have hdy := dl_cases ex.natAbs (by omega)
    have hex0 : ex < 0 := by omega
    clear hdx hdy a3 a4
    refine wp_seq_h ?_
    intro K2 HK2
    go_wp2
    apply HK2.out
    clear HK2 K2
    refine wp_seq_h ?_
    intro K2 HK2
    go_wp2
    apply HK2.out
    clear HK2 K2
    refine wp_seq_h ?_
    intro K2 HK2
    go_wp2
    apply HK2.out
    clear HK2 K2
    refine wp_seq_h ?_
    intro K2 HK2
    go_wp2
    apply HK2.out
    clear HK2 K2
    refine wp_seq_h ?_
    intro K2 HK2
    go_wp2
    apply HK2.out
    clear HK2 K2
    refine wp_seq_k ?_
    intro K2 hK2
    have NX : Hid (∀ (S e' y : Nat) (c1 : Nat → Nat) (a : Act) (w1 : World), Blk w1 g N c1 → w.grownBy w1 (some g) → y < 100000 → e' + 2 + dl y ≤ N → (∃ q0 k0 a0, e' = S + q0 ∧ ShpC (fun j => c1 (S + j)) q0 k0 a0 n d ∧ (1 < k0 → c1 S ≠ 48) ∧ E = (k0 : Int) - a0 - y) → (F9v g N cap S e' (-(y : Int)) (1 + dl y) fun k => a.tmps.getD k undef) = a → K2 a w1) :=
      Lib.hid fun S e' y c1 a w1 hB1 hG1 hy hr hSh hf => hK2 _ _ (wp_code (c := c9 [false, true, true, true, true, true, true, true, true, true, true, true, true]) (by kernel_rfl) (n9_c4t g N cap S e' y c1 w1 K Q a hf hB1 hN100 hy hr (fun e2 c2 a2 w2 hB2 hG2 hT hf2 => by
        obtain ⟨q0, k0, a0, hq0, hS0, hk0, hE0⟩ := hSh
        rw [hq0] at hT
        have hR := res_neg hS0 hk0 hT hE0 hy
        exact hfin S e2 c2 a2 w2 hB2 (Lib.grownBy_trans hG1 hG2) hR.1 (by have := hT.2.1; omega) hR.2 hf2)))
    clear hK2 hfin
    obtain ⟨y, hy⟩ : ∃ y : Nat, ex = -(y : Int) := ⟨ex.natAbs, by omega⟩
    have hy5 : y < 100000 := by omega
    have hry : e + 2 + dl y ≤ N := by
      have : ex.natAbs = y := by omega
      rw [this] at hroom
      omega
    have hl : lenI ex = 1 + dl y := by
      unfold lenI
      rw [if_pos (by omega), show ex.natAbs = y by omega]
    have C := leni_any ex w (by omega) (by omega)
    rw [hl] at C
    have CC := Lib.hid C
    have HY := Lib.hid hy
    have hex1 : -100000 < ex := by omega
    have hex2 : ex < 100000 := by omega
    clear hl hy hroom C
    go_wp2_with fail
    refine CC.out.mono ?_
    rintro e1 w' ⟨rfl, rfl⟩
    go_wp2
    refine NX.out 0 e y c _ _ HB.out (World.grownBy.refl _ _) hy5 hry ⟨n + 1, k, 0, by have := A3.out; omega, ?_, fun h => HI.out.nz h, by have := HY.out; have := HE.out; have := A4.out; omega⟩ (F9v_at _ _ _ _ _ _ _ rfl ⟨rfl, rfl, rfl, rfl, rfl, vi (by have := HY.out; omega), rfl, trivial⟩)
    refine shp_mid (b := fun j => c (0 + j)) HDG.out (by have := A3.out; omega) (by show c (0 + k) = 46; rw [Nat.zero_add]; exact HI.out.dot (by omega)) (fun j hj => ?_) (fun j hj1 hj2 => ?_)
    · rw [A5.out]
      show c (0 + j) = c (dpos k j)
      unfold dpos
      rw [if_pos hj, Nat.zero_add]
    · rw [A5.out]
      show c (0 + (j + 1)) = c (dpos k j)
      unfold dpos
      rw [if_neg (by omega), Nat.zero_add]
set_option maxRecDepth 100000

theorem gb_dj {w w2 : World} {r : Option Nat} (h : ({ heap := w.heap, tape := w.tape, drawn := w.drawn + 1, os := w.os, output := w.output } : World).grownBy w2 r) : w.grownBy w2 r := ⟨h.os, h.tape, h.output, h.size, h.block⟩
theorem res_mid {b d : Nat → Nat} {n t M : Nat} {E : Int} (hD : Dg d n) (ht : t < n) (h0 : b t = 46) (h1 : ∀ j, j < t → b j = d j) (h2 : ∀ j, t ≤ j → j < n → b (j + 1) = d j) (hM : M = n + 1) (hE : E = t) : Res b M n d E :=
  ⟨n + 1, t, 0, 0, by omega, shp_mid hD ht h0 h1 h2, fun h => by rw [h1 0 (by omega)]; exact hD.2.1, .inl ⟨hM.symm, rfl⟩, by omega⟩

set_option maxHeartbeats 4000000 in
theorem n9_3bt (g N cap S D e t n : Nat) (c d : Nat → Nat) (w : World) (K : Act → World → Prop) (Q : Exit → Act → World → Prop) (a : Act) (ha : (F9h g N cap S D e t fun k => a.tmps.getD k undef) = a)
    (hB : Blk w g N c) (hc : N ≤ cap) (hN : N ≤ 100) (hSD : S ≤ D) (hDn : D ≤ S + n) (he : e = S + n + 1) (heN : e ≤ N) (ht : t < n) (hDg : Dg d n) (hd1 : ∀ j, j < D - S → c (S + j) = d j) (hd2 : ∀ j, D - S ≤ j → j < n → c (S + (j + 1)) = d j)
    (hfin : ∀ (c' : Nat → Nat) (a : Act) (w' : World), Blk w' g N c' → w.grownBy w' (some g) → Res (fun j => c' (S + j)) (e - S) n d t → (F9z g N cap S e fun k => a.tmps.getD k undef) = a → K a w') :
    Code.wp Tryd.prog (c9 [false, true, true, true, true, true, false, true, true, true, true]) (Exit.then K Q) a w := by
  rw [← ha]
  clear ha
  generalize (fun k => a.tmps.getD k undef) = u
  conv => arg 2; whnf
  rw [F9h_lit, sg825_36, sg825_63, sg825_677]
  have HF := Lib.hid hfin
  have HB := Lib.hid hB
  have HDG := Lib.hid hDg
  have HE := Lib.hid he
  have H1 := Lib.hid hd1
  have H2 := Lib.hid hd2
  have hne : S + n + 1 ≤ e := by omega
  clear hB hDg hfin he hd1 hd2
  have b5 : (S : Int) + t < N := by omega
  have b6 : (0 : Int) ≤ (S : Int) + t := by omega
  have b7 : ((S : Int) + t).toNat = S + t := by omega
  refine wp_seq_h ?_
  intro K2 HK2
  go_wp2
  apply HK2.out
  clear HK2 K2
  by_cases h1 : D < S + t
  · have g1 : decide ((D : Int) < (S : Int) + t) = true := decide_eq_true (by omega)
    have z1 : cap ≠ D := by omega
    have z2 : (D : Int) ≤ N := by omega
    have z3 : IntKind.i64.wrap ((D : Int) + 1) = (D : Int) + 1 := IntWalk.i64_in _ (by omega)
    have z4 : cap ≠ D + 1 := by omega
    have z5 : IntKind.i64.wrap ((S : Int) + t + 1) = (S : Int) + t + 1 := IntWalk.i64_in _ (by omega)
    have z6 : (0 : Int) ≤ (D : Int) + 1 := by omega
    have z7 : ((D : Int) + 1).toNat = D + 1 := by omega
    have z8 : (D : Int) + 1 ≤ (S : Int) + t + 1 := by omega
    have z9 : (S : Int) + t + 1 ≤ cap := by omega
    have z10 : ((S : Int) + t + 1).toNat = S + t + 1 := by omega
    go_wp2
    go_still_tail 9, (by kernel_rfl)
    refine wpList_copy_blk rfl (.tmp 708) (.tmp 714) rfl g N c HB.out _ _ _ _ _ _ rfl rfl (S + t - D) (by show _ = min _ _; omega) (by omega) (by omega) ?_
    intro w2 hB2 hG2
    have f2 := hB2.out.free (S + t) (by omega)
    have k2 := hB2.out.cell (S + t) (by omega)
    go_wp2
    refine HF.out (upb (cpy c D (D + 1) (S + t - D)) (S + t) 46) _ _ (hB2.out.set (S + t) 46 (by omega)) (gb_set (gb_dj hG2.out) _ _) ?_ (F9z_at _ _ _ _ _ rfl ⟨rfl, rfl, rfl, rfl, rfl, trivial⟩)
    refine res_mid HDG.out ht (by show upb _ _ _ _ = 46; unfold upb; rw [if_pos rfl]) (fun j hj => ?_) (fun j hj1 hj2 => ?_) (by have := HE.out; omega) rfl
    · show upb _ _ _ (S + j) = d j
      unfold upb cpy
      rw [if_neg (by omega)]
      by_cases h3 : j < D - S
      · rw [if_neg (by omega)]; exact H1.out j h3
      · rw [if_pos (by omega), show S + j - D + (D + 1) = S + (j + 1) by omega]; exact H2.out j (by omega) (by omega)
    · show upb _ _ _ (S + (j + 1)) = d j
      unfold upb cpy
      rw [if_neg (by omega), if_neg (by omega)]; exact H2.out j (by omega) hj2
  · have g1 : decide ((D : Int) < (S : Int) + t) = false := decide_eq_false (by omega)
    by_cases h2 : S + t < D
    · have g2 : decide ((S : Int) + t < D) = true := decide_eq_true (by omega)
      have z1 : cap ≠ S + t := by omega
      have z3 : IntKind.i64.wrap ((S : Int) + t + 1) = (S : Int) + t + 1 := IntWalk.i64_in _ (by omega)
      have z4 : cap ≠ S + t + 1 := by omega
      have z5 : (S : Int) + t + 1 ≤ N := by omega
      have z6 : (0 : Int) ≤ (S : Int) + t + 1 := by omega
      have z7 : ((S : Int) + t + 1).toNat = S + t + 1 := by omega
      have z8 : (D : Int) ≤ cap := by omega
      have z9 : (S : Int) + t ≤ D := by omega
      go_wp2
      go_still_tail 8, (by kernel_rfl)
      refine wpList_copy_blk rfl (.tmp 722) (.tmp 726) rfl g N c HB.out _ _ _ _ _ _ rfl rfl (D - (S + t)) (by show _ = min _ _; omega) (by omega) (by omega) ?_
      intro w2 hB2 hG2
      have f2 := hB2.out.free (S + t) (by omega)
      have k2 := hB2.out.cell (S + t) (by omega)
      go_wp2
      refine HF.out (upb (cpy c (S + t + 1) (S + t) (D - (S + t))) (S + t) 46) _ _ (hB2.out.set (S + t) 46 (by omega)) (gb_set (gb_dj hG2.out) _ _) ?_ (F9z_at _ _ _ _ _ rfl ⟨rfl, rfl, rfl, rfl, rfl, trivial⟩)
      refine res_mid HDG.out ht (by show upb _ _ _ _ = 46; unfold upb; rw [if_pos rfl]) (fun j hj => ?_) (fun j hj1 hj2 => ?_) (by have := HE.out; omega) rfl
      · show upb _ _ _ (S + j) = d j
        unfold upb cpy
        rw [if_neg (by omega), if_neg (by omega)]; exact H1.out j (by omega)
      · show upb _ _ _ (S + (j + 1)) = d j
        unfold upb cpy
        rw [if_neg (by omega)]
        by_cases h3 : j < D - S
        · rw [if_pos (by omega), show S + (j + 1) - (S + t + 1) + (S + t) = S + j by omega]; exact H1.out j h3
        · rw [if_neg (by omega)]; exact H2.out j (by omega) hj2
    · have g2 : decide ((S : Int) + t < D) = false := decide_eq_false (by omega)
      have f2 := HB.out.free (S + t) (by omega)
      have k2 := HB.out.cell (S + t) (by omega)
      go_wp2
      refine HF.out (upb c (S + t) 46) _ _ (HB.out.set (S + t) 46 (by omega)) (gb_set (World.grownBy.refl _ _) _ _) ?_ (F9z_at _ _ _ _ _ rfl ⟨rfl, rfl, rfl, rfl, rfl, trivial⟩)
      refine res_mid HDG.out ht (by show upb _ _ _ _ = 46; unfold upb; rw [if_pos rfl]) (fun j hj => ?_) (fun j hj1 hj2 => ?_) (by have := HE.out; omega) rfl
      · show upb _ _ _ (S + j) = d j
        unfold upb
        rw [if_neg (by omega)]; exact H1.out j (by omega)
      · show upb _ _ _ (S + (j + 1)) = d j
        unfold upb
        rw [if_neg (by omega)]; exact H2.out j (by omega) hj2

set_option maxHeartbeats 4000000 in
theorem n9_3bi (g N cap q k st e n lX lE : Nat) (c d : Nat → Nat) (ex nx E X : Int) (w : World) (K : Act → World → Prop) (Q : Exit → Act → World → Prop) (a : Act)
    (ha : (F9m g N cap st k e ex n E X lX lE fun k => a.tmps.getD k undef) = a) (hI : In9 c N q k ex) (hB : Blk w g N c) (hc : N ≤ cap) (hKE : KE c q k st e n nx d) (hk : ∃ m, st = k ∧ K1 c q k e m ∧ n = e - m ∧ nx = (k : Int) - m + 1 ∧ d = fun j => c (m + j)) (hE : E = nx + ex) (hnE : E < n) (h0 : 0 ≤ E)
    (hfin : ∀ (S e' : Nat) (c' : Nat → Nat) (a : Act) (w' : World), Blk w' g N c' → w.grownBy w' (some g) → S < e' → e' ≤ N → Res (fun j => c' (S + j)) (e' - S) n d E → (F9z g N cap S e' fun k => a.tmps.getD k undef) = a → K a w') :
    Code.wp Tryd.prog (c9 [false, true, true, true, true, true, false, true, true, true]) (Exit.then K Q) a w := by
  obtain ⟨hE1, hE2, hne, heN, hn100, hn1, he1, _, _⟩ := room0 hI hKE hE
  have hDg : Dg d n := by obtain ⟨a0, h1, _⟩ := hKE.shp hI; exact h1.dg
  have hN100 := hI.n100
  have hqN := hI.qN
  have hkq := hI.kq
  have hroom := hI.room
  rw [← ha]
  clear ha
  generalize (fun k => a.tmps.getD k undef) = u
  conv => arg 2; whnf
  rw [F9m_lit, sg825_36, sg825_63, sg825_677]
  have HF := Lib.hid hfin
  have HB := Lib.hid hB
  have HI := Lib.hid hI
  have HE := Lib.hid hE
  have HDG := Lib.hid hDg
  obtain ⟨m, a1, a2, a3, a4, a5⟩ := hk
  clear hB hI hKE hDg hfin
  obtain ⟨t, ht⟩ : ∃ t : Nat, E = t := ⟨E.toNat, by omega⟩
  subst ht
  have ht2 : t < n := by omega
  subst a1
  have b1 := a2.hm
  have b2 := a2.he
  have b4 := a2.hq
  have A2 := Lib.hid a2
  have A3 := Lib.hid a3
  have A4 := Lib.hid a4
  have A5 := Lib.hid a5
  have g1 : decide ((e : Int) ≤ st) = false := decide_eq_false (by omega)
  obtain ⟨m1, hm1⟩ : ∃ m1, m = m1 + 1 := ⟨m - 1, by omega⟩
  have HM := Lib.hid hm1
  clear a2 a3 a4 a5 hE hroom hm1
  refine wp_seq_k ?_
  intro K2 hK2
  have NX : Hid (∀ (S D e' : Nat) (a : Act), S ≤ D → D ≤ S + n → e' = S + n + 1 → e' ≤ N → (∀ j, j < D - S → c (S + j) = d j) → (∀ j, D - S ≤ j → j < n → c (S + (j + 1)) = d j) → (F9h g N cap S D e' t fun k => a.tmps.getD k undef) = a → K2 a w) :=
    Lib.hid fun S D e' a h1 h2 h3 h4 h5 h6 hf => hK2 _ _ (wp_code (c := c9 [false, true, true, true, true, true, false, true, true, true, true]) (by kernel_rfl) (n9_3bt g N cap S D e' t n c d w K Q a hf HB.out hc hN100 h1 h2 h3 h4 ht2 HDG.out h5 h6 (fun c2 a2 w2 hB2 hG2 hR hf2 => HF.out S e' c2 a2 w2 hB2 hG2 (by omega) h4 hR hf2)))
  clear hK2
  go_wp2
  exact NX.out m1 m1 e _ (Nat.le_refl _) (by omega) (by have := A3.out; have := HM.out; omega) heN (fun j hj => absurd hj (by omega)) (fun j hj1 hj2 => by
    rw [A5.out]
    show c (m1 + (j + 1)) = c (m + j)
    have := HM.out
    congr 1; omega) (F9h_at _ _ _ _ _ _ _ rfl ⟨rfl, rfl, rfl, vi (by have := A3.out; have := HM.out; omega), vi (by have := A3.out; have := HM.out; omega), rfl, rfl, trivial⟩)

set_option maxHeartbeats 4000000 in
theorem n9_3bii (g N cap q k st e n lX lE : Nat) (c d : Nat → Nat) (ex nx E X : Int) (w : World) (K : Act → World → Prop) (Q : Exit → Act → World → Prop) (a : Act)
    (ha : (F9m g N cap st k e ex n E X lX lE fun k => a.tmps.getD k undef) = a) (hI : In9 c N q k ex) (hB : Blk w g N c) (hc : N ≤ cap) (hKE : KE c q k st e n nx d) (hk : st = 0 ∧ K2 c q k n ∧ e = n ∧ nx = k ∧ d = fun j => c j) (hE : E = nx + ex) (hnE : E < n) (h0 : 0 ≤ E)
    (hfin : ∀ (S e' : Nat) (c' : Nat → Nat) (a : Act) (w' : World), Blk w' g N c' → w.grownBy w' (some g) → S < e' → e' ≤ N → Res (fun j => c' (S + j)) (e' - S) n d E → (F9z g N cap S e' fun k => a.tmps.getD k undef) = a → K a w') :
    Code.wp Tryd.prog (c9 [false, true, true, true, true, true, false, true, true, true]) (Exit.then K Q) a w := by
  obtain ⟨hE1, hE2, hne, heN, hn100, hn1, he1, _, _⟩ := room0 hI hKE hE
  have hDg : Dg d n := by obtain ⟨a0, h1, _⟩ := hKE.shp hI; exact h1.dg
  have hN100 := hI.n100
  have hqN := hI.qN
  have hkq := hI.kq
  have hroom := hI.room
  rw [← ha]
  clear ha
  generalize (fun k => a.tmps.getD k undef) = u
  conv => arg 2; whnf
  rw [F9m_lit, sg825_36, sg825_63, sg825_677]
  have HF := Lib.hid hfin
  have HB := Lib.hid hB
  have HI := Lib.hid hI
  have HE := Lib.hid hE
  have HDG := Lib.hid hDg
  obtain ⟨a1, a2, a3, a4, a5⟩ := hk
  clear hB hI hKE hDg hfin
  obtain ⟨t, ht⟩ : ∃ t : Nat, E = t := ⟨E.toNat, by omega⟩
  subst ht
  have ht2 : t < n := by omega
  subst a1
  have b1 := a2.hn
  have b2 := a2.h1
  have g0 : ((k : Int) == 0) = false := beq_false_of_ne (by omega)
  have A2 := Lib.hid a2
  have A3 := Lib.hid a3
  have A4 := Lib.hid a4
  have A5 := Lib.hid a5
  have b3 : e ≤ k := by omega
  have h8 : e + 1 ≤ N := by
    have hdy := dl_cases ex.natAbs (by omega)
    omega
  clear a2 a3 a4 a5 hE hroom
  refine wp_seq_k ?_
  intro K2 hK2
  have NX : Hid (∀ (S D e' : Nat) (a : Act), S ≤ D → D ≤ S + n → e' = S + n + 1 → e' ≤ N → (∀ j, j < D - S → c (S + j) = d j) → (∀ j, D - S ≤ j → j < n → c (S + (j + 1)) = d j) → (F9h g N cap S D e' t fun k => a.tmps.getD k undef) = a → K2 a w) :=
    Lib.hid fun S D e' a h1 h2 h3 h4 h5 h6 hf => hK2 _ _ (wp_code (c := c9 [false, true, true, true, true, true, false, true, true, true, true]) (by kernel_rfl) (n9_3bt g N cap S D e' t n c d w K Q a hf HB.out hc hN100 h1 h2 h3 h4 ht2 HDG.out h5 h6 (fun c2 a2 w2 hB2 hG2 hR hf2 => HF.out S e' c2 a2 w2 hB2 hG2 (by omega) h4 hR hf2)))
  clear hK2
  go_wp2
  exact NX.out 0 e (e + 1) _ (by omega) (by have := A3.out; omega) (by have := A3.out; omega) h8 (fun j hj => by rw [A5.out, Nat.zero_add]) (fun j hj1 hj2 => by have := A3.out; omega) (F9h_at _ _ _ _ _ _ _ rfl ⟨rfl, rfl, rfl, rfl, rfl, vi (by omega), rfl, trivial⟩)

set_option maxHeartbeats 4000000 in
theorem n9_3biii (g N cap q k st e n lX lE : Nat) (c d : Nat → Nat) (ex nx E X : Int) (w : World) (K : Act → World → Prop) (Q : Exit → Act → World → Prop) (a : Act)
    (ha : (F9m g N cap st k e ex n E X lX lE fun k => a.tmps.getD k undef) = a) (hI : In9 c N q k ex) (hB : Blk w g N c) (hc : N ≤ cap) (hKE : KE c q k st e n nx d) (hk : st = 0 ∧ K3 c q k e ∧ n = e - 1 ∧ nx = k ∧ d = fun j => c (dpos k j)) (hE : E = nx + ex) (hnE : E < n) (h0 : 0 ≤ E)
    (hfin : ∀ (S e' : Nat) (c' : Nat → Nat) (a : Act) (w' : World), Blk w' g N c' → w.grownBy w' (some g) → S < e' → e' ≤ N → Res (fun j => c' (S + j)) (e' - S) n d E → (F9z g N cap S e' fun k => a.tmps.getD k undef) = a → K a w') :
    Code.wp Tryd.prog (c9 [false, true, true, true, true, true, false, true, true, true]) (Exit.then K Q) a w := by
  obtain ⟨hE1, hE2, hne, heN, hn100, hn1, he1, _, _⟩ := room0 hI hKE hE
  have hDg : Dg d n := by obtain ⟨a0, h1, _⟩ := hKE.shp hI; exact h1.dg
  have hN100 := hI.n100
  have hqN := hI.qN
  have hkq := hI.kq
  have hroom := hI.room
  rw [← ha]
  clear ha
  generalize (fun k => a.tmps.getD k undef) = u
  conv => arg 2; whnf
  rw [F9m_lit, sg825_36, sg825_63, sg825_677]
  have HF := Lib.hid hfin
  have HB := Lib.hid hB
  have HI := Lib.hid hI
  have HE := Lib.hid hE
  have HDG := Lib.hid hDg
  obtain ⟨a1, a2, a3, a4, a5⟩ := hk
  clear hB hI hKE hDg hfin
  obtain ⟨t, ht⟩ : ∃ t : Nat, E = t := ⟨E.toNat, by omega⟩
  subst ht
  have ht2 : t < n := by omega
  subst a1
  have b1 := a2.h1
  have b2 := a2.he
  have b4 := a2.hq
  have g0 : ((k : Int) == 0) = false := beq_false_of_ne (by omega)
  have A2 := Lib.hid a2
  have A3 := Lib.hid a3
  have A4 := Lib.hid a4
  have A5 := Lib.hid a5
  have g1 : decide ((e : Int) ≤ k) = false := decide_eq_false (by omega)
  clear a2 a3 a4 a5 hE hroom
  refine wp_seq_k ?_
  intro K2 hK2
  have NX : Hid (∀ (S D e' : Nat) (a : Act), S ≤ D → D ≤ S + n → e' = S + n + 1 → e' ≤ N → (∀ j, j < D - S → c (S + j) = d j) → (∀ j, D - S ≤ j → j < n → c (S + (j + 1)) = d j) → (F9h g N cap S D e' t fun k => a.tmps.getD k undef) = a → K2 a w) :=
    Lib.hid fun S D e' a h1 h2 h3 h4 h5 h6 hf => hK2 _ _ (wp_code (c := c9 [false, true, true, true, true, true, false, true, true, true, true]) (by kernel_rfl) (n9_3bt g N cap S D e' t n c d w K Q a hf HB.out hc hN100 h1 h2 h3 h4 ht2 HDG.out h5 h6 (fun c2 a2 w2 hB2 hG2 hR hf2 => HF.out S e' c2 a2 w2 hB2 hG2 (by omega) h4 hR hf2)))
  clear hK2
  go_wp2
  exact NX.out 0 k e _ (by omega) (by have := A3.out; omega) (by have := A3.out; omega) heN (fun j hj => by
    rw [A5.out]
    show c (0 + j) = c (dpos k j)
    unfold dpos
    rw [if_pos (by omega), Nat.zero_add]) (fun j hj1 hj2 => by
    rw [A5.out]
    show c (0 + (j + 1)) = c (dpos k j)
    unfold dpos
    rw [if_neg (by omega), Nat.zero_add]) (F9h_at _ _ _ _ _ _ _ rfl ⟨rfl, rfl, rfl, rfl, rfl, rfl, rfl, trivial⟩)
end Go.Proofs.YtblphppdfiipfaaDoor
