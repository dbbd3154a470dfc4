/- Bytes in a block, lengths of numbers, and digits read. Conditions: none. -/
import Derived.Test.YtblphppdfiipfaaDoorCKit
namespace Go.Proofs.YtblphppdfiipfaaDoor
open Go.RowKit
set_option maxRecDepth 100000

/-- the block g holds the bytes c, N of them, free to be written -/
def Blk (w : World) (g N : Nat) (c : Nat → Nat) : Prop := ∀ j, j < N → w.cell? ⟨g, j, none⟩ = some (.int .u8 (c j : Int)) ∧ w.frozen? ⟨g, j, none⟩ = false
theorem Blk.cell {w : World} {g N : Nat} {c : Nat → Nat} (h : Blk w g N c) (j : Nat) (hj : j < N) : w.cell? ⟨g, j, none⟩ = some (.int .u8 (c j : Int)) := (h j hj).1
theorem Blk.free {w : World} {g N : Nat} {c : Nat → Nat} (h : Blk w g N c) (j : Nat) (hj : j < N) : w.frozen? ⟨g, j, none⟩ = false := (h j hj).2
/-- a byte is set -/
def upb (c : Nat → Nat) (i v : Nat) : Nat → Nat := fun j => if j = i then v else c j
theorem Blk.set {w : World} {g N : Nat} {c : Nat → Nat} (h : Blk w g N c) (i v : Nat) (hi : i < N) : Blk (w.setCell ⟨g, i, none⟩ (.int .u8 (v : Int))) g N (upb c i v) := by
  intro j hj
  refine ⟨?_, by rw [World.frozen?_setCell]; exact h.free j hj⟩
  unfold upb
  by_cases e : j = i
  · subst e
    rw [if_pos rfl]
    exact World.cell?_setCell_same' _ _ _ (by rw [h.cell j hj]; rfl)
  · rw [if_neg e]
    refine (World.cell?_setCell_other _ _ _ _ ?_).trans (h.cell j hj)
    intro h2
    simp only [Addr.mk.injEq] at h2
    omega
theorem Blk.drewN {w : World} {g N : Nat} {c : Nat → Nat} (h : Blk w g N c) (n : Nat) : Blk (w.drewN n) g N c := h
theorem Blk.congr {w : World} {g N : Nat} {c c' : Nat → Nat} (h : Blk w g N c) (he : ∀ j, j < N → c j = c' j) : Blk w g N c' := fun j hj => by rw [← he j hj]; exact h j hj

/-- how many digits a number has, up to 99999 -/
def dl (x : Nat) : Nat := if x < 10 then 1 else if x < 100 then 2 else if x < 1000 then 3 else if x < 10000 then 4 else 5
theorem dl_cases (x : Nat) (hx : x < 100000) : (dl x = 1 ∧ x < 10) ∨ (dl x = 2 ∧ 10 ≤ x ∧ x < 100) ∨ (dl x = 3 ∧ 100 ≤ x ∧ x < 1000) ∨ (dl x = 4 ∧ 1000 ≤ x ∧ x < 10000) ∨ (dl x = 5 ∧ 10000 ≤ x ∧ x < 100000) := by
  unfold dl
  split
  · omega
  · split
    · omega
    · split
      · omega
      · split <;> omega
set_option maxHeartbeats 1000000 in
theorem lenu_any (x : Nat) (w : World) (hx : x < 100000) : Calls Tryd.prog 23 #[.int .u64 x] w fun e w' => e = .returned (.int .i64 (dl x)) ∧ w' = w := by
  obtain ⟨L, hL⟩ : ∃ L, dl x = L := ⟨_, rfl⟩
  have h := dl_cases x hx
  rw [hL] at h ⊢
  clear hL
  rcases h with ⟨rfl, h⟩ | ⟨rfl, h, h'⟩ | ⟨rfl, h, h'⟩ | ⟨rfl, h, h'⟩ | ⟨rfl, h, h'⟩
  · have g1 : decide ((x : Int) < 10) = true := decide_eq_true (by omega)
    clear h hx
    go_enter Tryd.func23, Tryd.ntmps23
    go_wp2
    go_ret
    exact ⟨rfl, rfl⟩
  · have g1 : decide ((x : Int) < 10) = false := decide_eq_false (by omega)
    have g2 : decide ((x : Int) < 100) = true := decide_eq_true (by omega)
    clear h h' hx
    go_enter Tryd.func23, Tryd.ntmps23
    go_wp2
    go_ret
    exact ⟨rfl, rfl⟩
  · have g1 : decide ((x : Int) < 10) = false := decide_eq_false (by omega)
    have g2 : decide ((x : Int) < 100) = false := decide_eq_false (by omega)
    have g3 : decide ((x : Int) < 1000) = true := decide_eq_true (by omega)
    clear h h' hx
    go_enter Tryd.func23, Tryd.ntmps23
    go_wp2
    go_ret
    exact ⟨rfl, rfl⟩
  · have g1 : decide ((x : Int) < 10) = false := decide_eq_false (by omega)
    have g2 : decide ((x : Int) < 100) = false := decide_eq_false (by omega)
    have g3 : decide ((x : Int) < 1000) = false := decide_eq_false (by omega)
    have g4 : decide ((x : Int) < 10000) = true := decide_eq_true (by omega)
    clear h h' hx
    go_enter Tryd.func23, Tryd.ntmps23
    go_wp2
    go_ret
    exact ⟨rfl, rfl⟩
  · have g1 : decide ((x : Int) < 10) = false := decide_eq_false (by omega)
    have g2 : decide ((x : Int) < 100) = false := decide_eq_false (by omega)
    have g3 : decide ((x : Int) < 1000) = false := decide_eq_false (by omega)
    have g4 : decide ((x : Int) < 10000) = false := decide_eq_false (by omega)
    have g5 : decide ((x : Int) < 100000) = true := decide_eq_true (by omega)
    clear h h' hx
    go_enter Tryd.func23, Tryd.ntmps23
    go_wp2
    go_ret
    exact ⟨rfl, rfl⟩
/-- how long a number is when it is written -/
def lenI (v : Int) : Nat := if v < 0 then 1 + dl v.natAbs else dl v.natAbs
set_option maxHeartbeats 1000000 in
theorem leni_any (v : Int) (w : World) (h1 : -100000 < v) (h2 : v < 100000) : Calls Tryd.prog 14 #[.int .i64 v] w fun e w' => e = .returned (.int .i64 (lenI v)) ∧ w' = w := by
  by_cases hv : v < 0
  · obtain ⟨x, hx⟩ : ∃ x : Nat, v = -(x : Int) := ⟨v.natAbs, by omega⟩
    subst hx
    have e : lenI (-(x : Int)) = 1 + dl x := by unfold lenI; rw [if_pos hv]; congr 2; omega
    rw [e]
    have hdl : dl x ≤ 5 := by rcases dl_cases x (by omega) with h | h | h | h | h <;> omega
    have g1 : decide (-(x : Int) < 0) = true := decide_eq_true (by omega)
    have g2 : (-(x : Int) == -9223372036854775808) = false := beq_false_of_ne (by omega)
    have g3 : IntKind.i64.wrap (-(-(x : Int))) = x := by rw [Int.neg_neg]; exact IntWalk.i64_in _ (by omega)
    have g3' : IntKind.i64.wrap (x : Int) = x := IntWalk.i64_in _ (by omega)
    have g4 : IntKind.u64.wrap (x : Int) = x := IntWalk.u64_in _ (by omega)
    have HC := Lib.hid (lenu_any x w (by omega))
    obtain ⟨L, hL⟩ : ∃ L, dl x = L := ⟨_, rfl⟩
    rw [hL] at HC hdl ⊢
    have g5 : IntKind.i64.wrap (1 + (L : Int)) = ((1 + L : Nat) : Int) := by rw [show 1 + (L : Int) = ((1 + L : Nat) : Int) by omega]; exact IntWalk.i64_in _ (by omega)
    clear hL e
    go_enter Tryd.func14, Tryd.ntmps14
    go_wp2_with fail
    refine HC.out.mono ?_
    rintro e w' ⟨rfl, rfl⟩
    go_wp2
    go_ret
    exact ⟨rfl, rfl⟩
  · obtain ⟨x, hx⟩ : ∃ x : Nat, v = (x : Int) := ⟨v.natAbs, by omega⟩
    subst hx
    have e : lenI (x : Int) = dl x := by unfold lenI; rw [if_neg hv]; congr 1
    rw [e]
    have g1 : decide ((x : Int) < 0) = false := decide_eq_false (by omega)
    have g4 : IntKind.u64.wrap (x : Int) = x := IntWalk.u64_in _ (by omega)
    have HC := Lib.hid (lenu_any x w (by omega))
    clear e
    go_enter Tryd.func14, Tryd.ntmps14
    go_wp2_with fail
    refine HC.out.mono ?_
    rintro e w' ⟨rfl, rfl⟩
    go_wp2
    go_ret
    exact ⟨rfl, rfl⟩

/-- the number that digits spell -/
def cest (c : Nat → Nat) (r : Nat) : Nat → Nat
  | 0 => 0
  | n + 1 => cest c r n * 10 + (c (r + n) - 48)
theorem cest_lt (c : Nat → Nat) (r : Nat) : ∀ n, (∀ j, j < n → c (r + j) ≤ 57) → cest c r n < 10 ^ n
  | 0, _ => by simp [cest]
  | n + 1, h => by
    have := cest_lt c r n fun j hj => h j (by omega)
    have h1 := h n (by omega)
    unfold cest
    rw [Nat.pow_succ]
    omega
def F13p (g o M cap i n : Nat) : (Nat → Value) → Act := FG 82 [(0, .slice (some ⟨g, o, none⟩) M cap), (4, .int .i64 i), (5, .bool false), (6, .int .i64 0), (7, .int .u64 n)]
theorem F13p_lit (g o M cap i n : Nat) (u : Nat → Value) : F13p g o M cap i n u = { tmps := #[.slice (some ⟨g, o, none⟩) M cap, u 1, u 2, u 3, .int .i64 i, .bool false, .int .i64 0, .int .u64 n, u 8, u 9, u 10, u 11, u 12, u 13, u 14, u 15, u 16, u 17, u 18, u 19, u 20, u 21, u 22, u 23, u 24, u 25, u 26, u 27, u 28, u 29, u 30, u 31, u 32, u 33, u 34, u 35, u 36, u 37, u 38, u 39, u 40, u 41, u 42, u 43, u 44, u 45, u 46, u 47, u 48, u 49, u 50, u 51, u 52, u 53, u 54, u 55, u 56, u 57, u 58, u 59, u 60, u 61, u 62, u 63, u 64, u 65, u 66, u 67, u 68, u 69, u 70, u 71, u 72, u 73, u 74, u 75, u 76, u 77, u 78, u 79, u 80, u 81], defers := [] } := by kernel_rfl
theorem F13p_at (g o M cap i n : Nat) {L : List Value} (hl : L.length = 82) (hn : NmOk L [(0, .slice (some ⟨g, o, none⟩) M cap), (4, .int .i64 i), (5, .bool false), (6, .int .i64 0), (7, .int .u64 n)]) : (F13p g o M cap i n fun k => (Act.mk L.toArray []).tmps.getD k undef) = { tmps := L.toArray, defers := [] } := FG_at hl hn

set_option maxHeartbeats 4000000 in
theorem pintp_any (g o M cap N : Nat) (c : Nat → Nat) (w : World) (hL : 0 < M) (hL4 : M ≤ 4) (hN : o + M ≤ N) (hB : Blk w g N c) (hd : ∀ i, 0 ≤ i → i < M → 48 ≤ c (o + i) ∧ c (o + i) ≤ 57) :
    Calls Tryd.prog 13 #[.slice (some ⟨g, o, none⟩) M cap] w fun e w' => e = .returned (.tuple #[.int .i64 (cest c o M), .int .i64 M]) ∧ w' = w := by
  have e0 := hB.cell o (by omega)
  have HB := Lib.hid hB
  have HD := Lib.hid hd
  have d0 := hd 0 (Nat.le_refl _) (by omega)
  clear hB hd
  rw [Nat.add_zero] at d0
  obtain ⟨c0, hc0⟩ : ∃ x, c o = x := ⟨_, rfl⟩
  rw [hc0] at e0 d0
  have s1 : ((c0 : Int) == 43) = false := by simp; omega
  have s2 : ((c0 : Int) == 45) = false := by simp; omega
  have g1 : decide ((M : Int) > 0) = true := decide_eq_true (by omega)
  have g2 : (0 : Int) < M := by omega
  clear hc0 d0
  go_enter Tryd.func13, Tryd.ntmps13
  go_wp2
  refine wp_loop_x (fun i : Nat => F13p g o M cap i (cest c o (i - 0))) (fun n i w' => n = M - i ∧ 0 ≤ i ∧ i ≤ M ∧ w' = w) (M - 0) 0 ⟨rfl, by omega, by omega, rfl⟩ (F13p_at _ _ _ _ _ _ rfl ⟨rfl, rfl, rfl, rfl, rfl, trivial⟩) ?_
  rintro n i u w2 ⟨hn, hi1, hi2, rfl⟩ K hK
  have HN := Lib.hid hn
  have HK := Lib.hid hK
  clear hn hK
  rw [F13p_lit]
  have hE := cest_lt c o (i - 0) fun j hj => by have := (HD.out (0 + j) (by omega) (by omega)).2; rw [show o + (0 + j) = o + j by omega] at this; exact this
  have hp : 10 ^ (i - 0) ≤ 10 ^ 4 := Nat.pow_le_pow_right (by omega) (by omega)
  have hE1 : cest c o (i - 0) < 10000 := by omega
  clear hp hE e0
  by_cases hlt : i < M
  · have hc := HD.out i hi1 hlt
    have e1 := HB.out.cell (o + i) (by omega)
    have hS : cest c o (i + 1 - 0) = cest c o (i - 0) * 10 + (c (o + i) - 48) := by
      rw [show i + 1 - 0 = i - 0 + 1 by omega, cest, show o + (i - 0) = o + i by omega]
    obtain ⟨cc, hcc⟩ : ∃ x, c (o + i) = x := ⟨_, rfl⟩
    rw [hcc] at hc e1 hS
    obtain ⟨E, hEE⟩ : ∃ x, cest c o (i - 0) = x := ⟨_, rfl⟩
    rw [hEE] at hE1 hS ⊢
    have hlt' : decide ((i : Int) < M) = true := decide_eq_true (by omega)
    have hlt2 : (i : Int) < M := by omega
    have g48 : decide ((48 : Int) ≤ cc) = true := decide_eq_true (by omega)
    have g57 : decide ((cc : Int) ≤ 57) = true := decide_eq_true (by omega)
    have v1 : IntKind.u8.wrap ((cc : Int) - 48) = (cc : Int) - 48 := IntWalk.u8_in _ (by omega)
    have v2 : IntKind.u64.wrap ((cc : Int) - 48) = (cc : Int) - 48 := IntWalk.u64_in _ (by omega)
    have v3 : IntKind.u64.wrap ((E : Int) * 10) = (E : Int) * 10 := IntWalk.u64_in _ (by omega)
    have v4 : IntKind.u64.wrap ((E : Int) * 10 + ((cc : Int) - 48)) = ((E * 10 + (cc - 48) : Nat) : Int) := by rw [show (E : Int) * 10 + ((cc : Int) - 48) = ((E * 10 + (cc - 48) : Nat) : Int) by omega]; exact IntWalk.u64_in _ (by omega)
    have v5 : IntKind.u64.wrap (9223372036854775808 - ((cc : Int) - 48)) = 9223372036854775808 - ((cc : Int) - 48) := IntWalk.u64_in _ (by omega)
    have v6 : decide (9223372036854775808 - ((cc : Int) - 48) < (E : Int) * 10) = false := decide_eq_false (by omega)
    have v7 : decide (922337203685477580 < (E : Int)) = false := decide_eq_false (by omega)
    have v8 : IntKind.i64.wrap ((i : Int) + 1) = ((i + 1 : Nat) : Int) := IntWalk.i64_in _ (by omega)
    have HS := Lib.hid hS
    clear hS hEE hcc hc
    go_wp2
    exact HK.out (M - (i + 1)) (i + 1) _ _ (by have := HN.out; omega) ⟨rfl, by omega, by omega, rfl⟩ (by
      rw [HS.out]
      exact F13p_at _ _ _ _ _ _ rfl ⟨rfl, rfl, rfl, rfl, rfl, trivial⟩)
  · obtain rfl : M = i := by omega
    have hlt' : decide ((M : Int) < M) = false := decide_eq_false (by omega)
    obtain ⟨E, hEE⟩ : ∃ x, cest c o (M - 0) = x := ⟨_, rfl⟩
    rw [hEE] at hE1 ⊢
    have v1 : ((M : Int) == 0) = false := beq_false_of_ne (by omega)
    have v2 : decide (9223372036854775807 < (E : Int)) = false := decide_eq_false (by omega)
    have v3 : IntKind.i64.wrap (E : Int) = E := IntWalk.i64_in _ (by omega)
    have v4 : IntKind.i64.wrap (-(E : Int)) = -E := IntWalk.i64_in _ (by omega)
    have HE := Lib.hid hEE
    clear hEE HN
    go_wp2
    go_ret2
    exact ⟨by rw [show cest c o M = E from HE.out]; rfl, rfl⟩
def F13n (g o M cap i n : Nat) : (Nat → Value) → Act := FG 82 [(0, .slice (some ⟨g, o, none⟩) M cap), (4, .int .i64 i), (5, .bool true), (6, .int .i64 1), (7, .int .u64 n)]
theorem F13n_lit (g o M cap i n : Nat) (u : Nat → Value) : F13n g o M cap i n u = { tmps := #[.slice (some ⟨g, o, none⟩) M cap, u 1, u 2, u 3, .int .i64 i, .bool true, .int .i64 1, .int .u64 n, u 8, u 9, u 10, u 11, u 12, u 13, u 14, u 15, u 16, u 17, u 18, u 19, u 20, u 21, u 22, u 23, u 24, u 25, u 26, u 27, u 28, u 29, u 30, u 31, u 32, u 33, u 34, u 35, u 36, u 37, u 38, u 39, u 40, u 41, u 42, u 43, u 44, u 45, u 46, u 47, u 48, u 49, u 50, u 51, u 52, u 53, u 54, u 55, u 56, u 57, u 58, u 59, u 60, u 61, u 62, u 63, u 64, u 65, u 66, u 67, u 68, u 69, u 70, u 71, u 72, u 73, u 74, u 75, u 76, u 77, u 78, u 79, u 80, u 81], defers := [] } := by kernel_rfl
theorem F13n_at (g o M cap i n : Nat) {L : List Value} (hl : L.length = 82) (hn : NmOk L [(0, .slice (some ⟨g, o, none⟩) M cap), (4, .int .i64 i), (5, .bool true), (6, .int .i64 1), (7, .int .u64 n)]) : (F13n g o M cap i n fun k => (Act.mk L.toArray []).tmps.getD k undef) = { tmps := L.toArray, defers := [] } := FG_at hl hn

set_option maxHeartbeats 4000000 in
theorem pintn_any (g o M cap N : Nat) (c : Nat → Nat) (w : World) (hL : 1 < M) (hL4 : M ≤ 5) (hN : o + M ≤ N) (hB : Blk w g N c) (h45 : c o = 45) (hd : ∀ i, 1 ≤ i → i < M → 48 ≤ c (o + i) ∧ c (o + i) ≤ 57) :
    Calls Tryd.prog 13 #[.slice (some ⟨g, o, none⟩) M cap] w fun e w' => e = .returned (.tuple #[.int .i64 (-(cest c (o + 1) (M - 1) : Int)), .int .i64 M]) ∧ w' = w := by
  have e0 := hB.cell o (by omega)
  have HB := Lib.hid hB
  have HD := Lib.hid hd
  have d0 := hd 1 (Nat.le_refl _) (by omega)
  clear hB hd
  rw [h45] at e0
  have g1 : decide ((M : Int) > 0) = true := decide_eq_true (by omega)
  have g2 : (0 : Int) < M := by omega
  clear d0
  have H45 := Lib.hid h45
  clear h45
  go_enter Tryd.func13, Tryd.ntmps13
  go_wp2
  refine wp_loop_x (fun i : Nat => F13n g o M cap i (cest c (o + 1) (i - 1))) (fun n i w' => n = M - i ∧ 1 ≤ i ∧ i ≤ M ∧ w' = w) (M - 1) 1 ⟨rfl, by omega, by omega, rfl⟩ (F13n_at _ _ _ _ _ _ rfl ⟨rfl, rfl, rfl, rfl, rfl, trivial⟩) ?_
  rintro n i u w2 ⟨hn, hi1, hi2, rfl⟩ K hK
  have HN := Lib.hid hn
  have HK := Lib.hid hK
  clear hn hK
  rw [F13n_lit]
  have hE := cest_lt c (o + 1) (i - 1) fun j hj => by have := (HD.out (1 + j) (by omega) (by omega)).2; rw [show o + (1 + j) = (o + 1) + j by omega] at this; exact this
  have hp : 10 ^ (i - 1) ≤ 10 ^ 4 := Nat.pow_le_pow_right (by omega) (by omega)
  have hE1 : cest c (o + 1) (i - 1) < 10000 := by omega
  clear hp hE e0
  by_cases hlt : i < M
  · have hc := HD.out i hi1 hlt
    have e1 := HB.out.cell (o + i) (by omega)
    have hS : cest c (o + 1) (i + 1 - 1) = cest c (o + 1) (i - 1) * 10 + (c (o + i) - 48) := by
      rw [show i + 1 - 1 = i - 1 + 1 by omega, cest, show (o + 1) + (i - 1) = o + i by omega]
    obtain ⟨cc, hcc⟩ : ∃ x, c (o + i) = x := ⟨_, rfl⟩
    rw [hcc] at hc e1 hS
    obtain ⟨E, hEE⟩ : ∃ x, cest c (o + 1) (i - 1) = x := ⟨_, rfl⟩
    rw [hEE] at hE1 hS ⊢
    have hlt' : decide ((i : Int) < M) = true := decide_eq_true (by omega)
    have hlt2 : (i : Int) < M := by omega
    have g48 : decide ((48 : Int) ≤ cc) = true := decide_eq_true (by omega)
    have g57 : decide ((cc : Int) ≤ 57) = true := decide_eq_true (by omega)
    have v1 : IntKind.u8.wrap ((cc : Int) - 48) = (cc : Int) - 48 := IntWalk.u8_in _ (by omega)
    have v2 : IntKind.u64.wrap ((cc : Int) - 48) = (cc : Int) - 48 := IntWalk.u64_in _ (by omega)
    have v3 : IntKind.u64.wrap ((E : Int) * 10) = (E : Int) * 10 := IntWalk.u64_in _ (by omega)
    have v4 : IntKind.u64.wrap ((E : Int) * 10 + ((cc : Int) - 48)) = ((E * 10 + (cc - 48) : Nat) : Int) := by rw [show (E : Int) * 10 + ((cc : Int) - 48) = ((E * 10 + (cc - 48) : Nat) : Int) by omega]; exact IntWalk.u64_in _ (by omega)
    have v5 : IntKind.u64.wrap (9223372036854775808 - ((cc : Int) - 48)) = 9223372036854775808 - ((cc : Int) - 48) := IntWalk.u64_in _ (by omega)
    have v6 : decide (9223372036854775808 - ((cc : Int) - 48) < (E : Int) * 10) = false := decide_eq_false (by omega)
    have v7 : decide (922337203685477580 < (E : Int)) = false := decide_eq_false (by omega)
    have v8 : IntKind.i64.wrap ((i : Int) + 1) = ((i + 1 : Nat) : Int) := IntWalk.i64_in _ (by omega)
    have HS := Lib.hid hS
    clear hS hEE hcc hc
    go_wp2
    exact HK.out (M - (i + 1)) (i + 1) _ _ (by have := HN.out; omega) ⟨rfl, by omega, by omega, rfl⟩ (by
      rw [HS.out]
      exact F13n_at _ _ _ _ _ _ rfl ⟨rfl, rfl, rfl, rfl, rfl, trivial⟩)
  · obtain rfl : M = i := by omega
    have hlt' : decide ((M : Int) < M) = false := decide_eq_false (by omega)
    obtain ⟨E, hEE⟩ : ∃ x, cest c (o + 1) (M - 1) = x := ⟨_, rfl⟩
    rw [hEE] at hE1 ⊢
    have v1 : ((M : Int) == 1) = false := beq_false_of_ne (by omega)
    have v2 : decide (9223372036854775807 < (E : Int)) = false := decide_eq_false (by omega)
    have v3 : IntKind.i64.wrap (E : Int) = E := IntWalk.i64_in _ (by omega)
    have v4 : IntKind.i64.wrap (-(E : Int)) = -E := IntWalk.i64_in _ (by omega)
    have HE := Lib.hid hEE
    clear hEE HN
    go_wp2
    go_ret2
    exact ⟨by rw [HE.out]; rfl, rfl⟩
end Go.Proofs.YtblphppdfiipfaaDoor
