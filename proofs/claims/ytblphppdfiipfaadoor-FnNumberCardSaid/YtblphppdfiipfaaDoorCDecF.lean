/- The bits of a decimal. Conditions: none. -/
import Derived.Test.YtblphppdfiipfaaDoorCDecL
import Derived.Test.YtblphppdfiipfaaDoorCFloB
import Derived.ScopeJumps
import Derived.WalkMore
namespace Go.Proofs.YtblphppdfiipfaaDoor
open Go.RowKit
open Dc
set_option maxRecDepth 100000

def F62 (g : Nat) (b : Bool) (e : Int) (m : Nat) : (Nat → Value) → Act := FG 243 [(0, .pointer (some ⟨g, 0, none⟩)), (1, .pointer (some ⟨7, 0, none⟩)), (5, .bool b), (6, .int .i64 e), (7, .int .u64 m)]
theorem F62_lit (g : Nat) (b : Bool) (e : Int) (m : Nat) (u : Nat → Value) : F62 g  b  e  m u = { tmps := #[.pointer (some ⟨g, 0, none⟩), .pointer (some ⟨7, 0, none⟩), u 2, u 3, u 4, .bool b, .int .i64 e, .int .u64 m, u 8, u 9, u 10, u 11, u 12, u 13, u 14, u 15, u 16, u 17, u 18, u 19, u 20, u 21, u 22, u 23, u 24, u 25, u 26, u 27, u 28, u 29, u 30, u 31, u 32, u 33, u 34, u 35, u 36, u 37, u 38, u 39, u 40, u 41, u 42, u 43, u 44, u 45, u 46, u 47, u 48, u 49, u 50, u 51, u 52, u 53, u 54, u 55, u 56, u 57, u 58, u 59, u 60, u 61, u 62, u 63, u 64, u 65, u 66, u 67, u 68, u 69, u 70, u 71, u 72, u 73, u 74, u 75, u 76, u 77, u 78, u 79, u 80, u 81, u 82, u 83, u 84, u 85, u 86, u 87, u 88, u 89, u 90, u 91, u 92, u 93, u 94, u 95, u 96, u 97, u 98, u 99, u 100, u 101, u 102, u 103, u 104, u 105, u 106, u 107, u 108, u 109, u 110, u 111, u 112, u 113, u 114, u 115, u 116, u 117, u 118, u 119, u 120, u 121, u 122, u 123, u 124, u 125, u 126, u 127, u 128, u 129, u 130, u 131, u 132, u 133, u 134, u 135, u 136, u 137, u 138, u 139, u 140, u 141, u 142, u 143, u 144, u 145, u 146, u 147, u 148, u 149, u 150, u 151, u 152, u 153, u 154, u 155, u 156, u 157, u 158, u 159, u 160, u 161, u 162, u 163, u 164, u 165, u 166, u 167, u 168, u 169, u 170, u 171, u 172, u 173, u 174, u 175, u 176, u 177, u 178, u 179, u 180, u 181, u 182, u 183, u 184, u 185, u 186, u 187, u 188, u 189, u 190, u 191, u 192, u 193, u 194, u 195, u 196, u 197, u 198, u 199, u 200, u 201, u 202, u 203, u 204, u 205, u 206, u 207, u 208, u 209, u 210, u 211, u 212, u 213, u 214, u 215, u 216, u 217, u 218, u 219, u 220, u 221, u 222, u 223, u 224, u 225, u 226, u 227, u 228, u 229, u 230, u 231, u 232, u 233, u 234, u 235, u 236, u 237, u 238, u 239, u 240, u 241, u 242], defers := [] } := by kernel_rfl
theorem F62_at (g : Nat) (b : Bool) (e : Int) (m : Nat) {L : List Value} (hl : L.length = 243) (hn : NmOk L [(0, .pointer (some ⟨g, 0, none⟩)), (1, .pointer (some ⟨7, 0, none⟩)), (5, .bool b), (6, .int .i64 e), (7, .int .u64 m)]) : (F62 g  b  e  m fun k => (Act.mk L.toArray []).tmps.getD k undef) = { tmps := L.toArray, defers := [] } := FG_at hl hn

theorem and2047 (t : Nat) (h : t < 2048) : Go.bits .and .i64 (t : Int) 2047 = (t : Int) := by
  have : ∀ t : Fin 2048, Go.bits .and .i64 ((t.val : Nat) : Int) 2047 = ((t.val : Nat) : Int) := by decide +kernel
  exact this ⟨t, h⟩
/-- As Q; by a goto to label l1: J1; to l2: J2. -/
def Exit.two (l1 : Nat) (J1 : Act → World → Prop) (l2 : Nat) (J2 : Act → World → Prop) (Q : Exit → Act → World → Prop) : Exit → Act → World → Prop
  | .goto l', a, w => (l' = l1 ∧ J1 a w) ∨ (l' = l2 ∧ J2 a w)
  | e, a, w => Q e a w
section
variable {Q : Exit → Act → World → Prop} {a : Act} {w : World} {l1 l2 : Nat} {J1 J2 : Act → World → Prop}
theorem Exit.two_normal : Exit.two l1 J1 l2 J2 Q .normal a w = Q .normal a w := rfl
theorem Exit.two_exit (id : Nat) : Exit.two l1 J1 l2 J2 Q (.exit id) a w = Q (.exit id) a w := rfl
theorem Exit.two_ret : Exit.two l1 J1 l2 J2 Q .ret a w = Q .ret a w := rfl
theorem Exit.two_goto (l : Nat) : Exit.two l1 J1 l2 J2 Q (.goto l) a w = ((l = l1 ∧ J1 a w) ∨ (l = l2 ∧ J2 a w)) := rfl
end
theorem wp_scope_two {P : Program} {a : Act} {w : World} {Q : Exit → Act → World → Prop} {c r1 r2 : Code} (l1 l2 : Nat) (J1 J2 : Act → World → Prop) (h1 : findLabel c l1 = some r1) (h2 : findLabel c l2 = some r2)
    (first : c.wp P (Exit.two l1 J1 l2 J2 Q) a w) (p1 : ∀ a w, J1 a w → r1.wp P (Exit.noGoto Q) a w) (p2 : ∀ a w, J2 a w → r2.wp P (Exit.noGoto Q) a w) : (Code.scope c).wp P Q a w := by
  intro b k cs
  have key : ∀ (l : Nat) (rest : Code) (a : Act) (w : World), findLabel c l = some rest → rest.wp P (Exit.noGoto Q) a w → ∃ e a' w', Q e a' w' ∧ Arrives P (lone (b.at a (.code rest :: .inScope c :: k)) cs w) b k cs e a' w' := by
    intro l rest a w _ hp
    obtain ⟨e, a₁, w₁, hq, harr⟩ := hp b (.inScope c :: k) cs
    cases e with
    | normal => exact ⟨.normal, a₁, w₁, hq, Steps.trans harr (.one step_inScope)⟩
    | exit id => exact ⟨.exit id, a₁, w₁, hq, fun k' hk => harr k' (by simp [exitTo, hk])⟩
    | goto l' => exact hq.elim
    | ret => exact ⟨_, a₁, w₁, hq, harr⟩
    | panic ch => exact ⟨_, a₁, w₁, hq, harr⟩
    | outgrown => exact ⟨_, a₁, w₁, hq, harr⟩
  obtain ⟨e, a₁, w₁, hq, harr⟩ := first b (.inScope c :: k) cs
  cases e with
  | normal => exact ⟨.normal, a₁, w₁, hq, .head step_scope (Steps.trans harr (.one step_inScope))⟩
  | exit id => exact ⟨.exit id, a₁, w₁, hq, fun k' hk => .head step_scope (harr k' (by simp [exitTo, hk]))⟩
  | goto l' =>
    rcases hq with ⟨rfl, hJ⟩ | ⟨rfl, hJ⟩
    · obtain ⟨e₂, a₂, w₂, hq₂, harr₂⟩ := key _ _ _ _ h1 (p1 _ _ hJ)
      exact ⟨e₂, a₂, w₂, hq₂, .of_steps (.head step_scope (harr _ (by simp [gotoIn, h1]))) harr₂⟩
    · obtain ⟨e₂, a₂, w₂, hq₂, harr₂⟩ := key _ _ _ _ h2 (p2 _ _ hJ)
      exact ⟨e₂, a₂, w₂, hq₂, .of_steps (.head step_scope (harr _ (by simp [gotoIn, h2]))) harr₂⟩
  | ret => exact ⟨_, a₁, w₁, hq, .of_steps (.one step_scope) harr⟩
  | panic ch => exact ⟨_, a₁, w₁, hq, .of_steps (.one step_scope) harr⟩
  | outgrown => exact ⟨_, a₁, w₁, hq, .of_steps (.one step_scope) harr⟩

/-- what the slow way reads of the program's variables; g: the decimal's block -/
def SlE (g : Nat) (w : World) : Prop := (g ≠ 13 ∧ g ≠ 9 ∧ g ≠ 7) ∧
  (∃ a cap, a.block ≠ g ∧ w.cell? ⟨13, 0, none⟩ = some (.slice (some a) 61 cap) ∧ ∀ k, k ≤ 60 → w.cell? (a.add (k * 2)) = some (.int .i64 (dK k)) ∧
    ∃ s : ByteArray, s.data.toList = (cheat k).2 ∧ w.cell? ⟨(a.add (k * 2)).block, (a.add (k * 2)).off + 1, none⟩ = some (.string s)) ∧
  (∃ a cap, a.block ≠ g ∧ w.cell? ⟨9, 0, none⟩ = some (.slice (some a) 9 cap) ∧ ∀ i, i < 9 → w.cell? (a.add i) = some (.int .i64 (pt.getD i 1))) ∧
  w.cell? ⟨7, 0, none⟩ = some (.int .u64 52) ∧ w.cell? ⟨7, 1, none⟩ = some (.int .u64 11) ∧ w.cell? ⟨7, 2, none⟩ = some (.int .i64 (-1023))
theorem shr_b : ∀ (f n : Nat) (x : St), Big x.V → n ≤ 60 * (f + 1) → Big (shr f n x).V ∧ x.dp - 20 * ((f : Int) + 1) ≤ (shr f n x).dp ∧ (shr f n x).dp ≤ x.dp
  | 0, n, x, h, hn => by
    have := r0_spec h (show n ≤ 60 by omega)
    refine ⟨rV_big h (by omega), ?_, ?_⟩
    · show x.dp - 20 * (((0 : Nat) : Int) + 1) ≤ x.dp - ((r0 x.V n : Int) - 1); omega
    · show x.dp - ((r0 x.V n : Int) - 1) ≤ x.dp; omega
  | f + 1, n, x, h, hn => by
    unfold shr
    by_cases h6 : 60 < n
    · rw [if_pos h6]
      have := r0_spec h (Nat.le_refl 60)
      have ih := shr_b f (n - 60) (x.rsh 60) (rV_big h (Nat.le_refl 60)) (by omega)
      have e : (x.rsh 60).dp = x.dp - ((r0 x.V 60 : Int) - 1) := rfl
      rw [e] at ih
      exact ⟨ih.1, by omega, by omega⟩
    · rw [if_neg h6]
      have := r0_spec h (show n ≤ 60 by omega)
      refine ⟨rV_big h (by omega), ?_, ?_⟩
      · show x.dp - 20 * (((f + 1 : Nat) : Int) + 1) ≤ x.dp - ((r0 x.V n : Int) - 1); omega
      · show x.dp - ((r0 x.V n : Int) - 1) ≤ x.dp; omega
theorem add_block (a : Addr) (n : Nat) : (a.add n).block = a.block := by unfold Addr.add; split <;> rfl
theorem SlE.later {g : Nat} {w w' : World} (h : SlE g w) (hg : w.grownBy w' (some g)) : SlE g w' := by
  obtain ⟨⟨n1, n2, n3⟩, ⟨a, cap, b1, b2, b3⟩, ⟨c, cap2, d1, d2, d3⟩, e1, e2, e3⟩ := h
  refine ⟨⟨n1, n2, n3⟩, ⟨a, cap, b1, cell_grown hg (fun h => n1 h.symm) b2, fun k hk => ?_⟩, ⟨c, cap2, d1, cell_grown hg (fun h => n2 h.symm) d2, fun i hi => cell_grown hg (by rw [add_block]; exact d1) (d3 i hi)⟩, cell_grown hg (fun h => n3 h.symm) e1, cell_grown hg (fun h => n3 h.symm) e2, cell_grown hg (fun h => n3 h.symm) e3⟩
  obtain ⟨f1, s, f2, f3⟩ := b3 k hk
  exact ⟨cell_grown hg (by rw [add_block]; exact b1) f1, s, f2, cell_grown hg (by show (a.add (k * 2)).block ≠ g; rw [add_block]; exact b1) f3⟩
theorem SlE.lc {g : Nat} {w : World} (h : SlE g w) : LcE w := by
  obtain ⟨_, ⟨a, cap, _, b2, b3⟩, _⟩ := h
  exact ⟨a, cap, b2, b3⟩

/-- at the label 'out' -/
def OutJ (r : Nat × Bool) (w : World) (g : Nat) (a : Act) (w1 : World) : Prop := ∃ e m b u, a = F62 g b e m u ∧ (-1023 ≤ e ∧ e ≤ 1024) ∧ m < 2 ^ 64 ∧ r = (wrd m e, b) ∧ w.grownBy w1 (some g) ∧
  w1.cell? ⟨g, 802, none⟩ = some (.bool false) ∧ w1.cell? ⟨7, 0, none⟩ = some (.int .u64 52) ∧ w1.cell? ⟨7, 1, none⟩ = some (.int .u64 11) ∧ w1.cell? ⟨7, 2, none⟩ = some (.int .i64 (-1023))
/-- at the label 'overflow' -/
def OvJ (r : Nat × Bool) (w : World) (g : Nat) (a : Act) (w1 : World) : Prop := ∃ e m u, a = F62 g false e m u ∧ r = (9218868437227405312, true) ∧ w.grownBy w1 (some g) ∧
  w1.cell? ⟨g, 802, none⟩ = some (.bool false) ∧ w1.cell? ⟨7, 0, none⟩ = some (.int .u64 52) ∧ w1.cell? ⟨7, 1, none⟩ = some (.int .u64 11) ∧ w1.cell? ⟨7, 2, none⟩ = some (.int .i64 (-1023))
def FbPost (r : Nat × Bool) (w : World) (g : Nat) (e : Ending) (w' : World) : Prop := e = .returned (.tuple #[.int .u64 r.1, .bool r.2]) ∧ w.grownBy w' (some g)

set_option maxHeartbeats 4000000 in
theorem fbits_any (g V : Nat) (dp : Int) (nd : Nat) (w : World) (T : SlE g w) (hV : Big V) (hdp : -50000 ≤ dp ∧ dp ≤ 50000) (h : Dst w g V dp false nd) :
    Calls Tryd.prog 62 #[.pointer (some ⟨g, 0, none⟩), .pointer (some ⟨7, 0, none⟩)] w (FbPost (slowB V dp) w g) := by
  have hnd1 := h.nd1 hV
  have HH := Lib.hid h
  obtain ⟨dc, hB, hR⟩ := h
  obtain ⟨c0, c1, c2, c3⟩ := hB.cells
  obtain ⟨⟨n1, n2, n3⟩, t1, t2, t3, t4, t5⟩ := id T
  have HT := Lib.hid T
  clear hB hR t1 t2 T
  have HV := Lib.hid hV; clear hV
  have g1 : ((nd : Int) == 0) = false := beq_false_of_ne (by omega)
  go_enter Tryd.func62, Tryd.ntmps62
  go_wp2_with fail
  refine wp_scope_two 0 1 (OutJ (slowB V dp) w g) (OvJ (slowB V dp) w g) (by rfl) (by rfl) ?_ ?_ ?_
  rotate_left 1
  · rintro a1 w1 ⟨e, m, b, u, rfl, he, hm, hr, hg, q0, q1, q2, q3⟩
    clear c0 c1 c2 c3 t3 t4 t5
    rw [F62_lit]
    obtain ⟨t, ht⟩ : ∃ t : Nat, e + 1023 = t := ⟨(e + 1023).toNat, by omega⟩
    have ht2 : t < 2048 := by omega
    have w1 : IntKind.i64.wrap (e + 1023) = (t : Int) := by rw [ht]; exact IntWalk.i64_in _ (by omega)
    have w2 : Go.bits .and .i64 (t : Int) 2047 = (t : Int) := and2047 t ht2
    have w3 : IntKind.u64.wrap (t : Int) = (t : Int) := IntWalk.u64_in _ (by omega)
    have w4 : IntKind.u64.wrap ((t : Int) * 4503599627370496) = ((t * 2 ^ 52 : Nat) : Int) := by
      rw [show (t : Int) * 4503599627370496 = ((t * 2 ^ 52 : Nat) : Int) by omega]; exact IntWalk.u64_in _ (by omega)
    have w5 : Go.bits .and .u64 (m : Int) 4503599627370495 = ((m % 2 ^ 52 : Nat) : Int) := by
      have := u64_and_nat m 4503599627370495 (by omega) (by omega)
      rw [show ((4503599627370495 : Int)) = ((4503599627370495 : Nat) : Int) from rfl, this, show (4503599627370495 : Nat) = 2 ^ 52 - 1 by decide, Nat.and_two_pow_sub_one_eq_mod]
    have w6 : Go.bits .or .u64 ((m % 2 ^ 52 : Nat) : Int) ((t * 2 ^ 52 : Nat) : Int) = ((wrd m e : Nat) : Int) := by
      rw [u64_or_nat _ _ (Nat.lt_trans (Nat.mod_lt _ (Nat.two_pow_pos 52)) (by decide)) (by omega)]
      unfold wrd
      rw [ht]; rfl
    obtain ⟨x, hx⟩ : ∃ x, m % 2 ^ 52 = x := ⟨_, rfl⟩
    obtain ⟨y, hy⟩ : ∃ x, t * 2 ^ 52 = x := ⟨_, rfl⟩
    obtain ⟨z, hz⟩ : ∃ x, wrd m e = x := ⟨_, rfl⟩
    rw [hx] at w5 w6
    rw [hy] at w4 w6
    rw [hz] at w6 hr
    have HR := Lib.hid hr
    have HG := Lib.hid hg
    clear hx hy hz hr hg ht he hm
    go_wp2_with fail
    go_quiet (fail)
    go_wp2_with fail
    go_ret2
    exact ⟨by rw [HR.out]; rfl, gb_drewN HG.out _⟩
  · rintro a1 w1 ⟨e, m, u, rfl, hr, hg, q0, q1, q2, q3⟩
    clear c0 c1 c2 c3 t3 t4 t5
    rw [F62_lit]
    have w2 : Go.bits .and .i64 2047 2047 = 2047 := and2047 2047 (by omega)
    have w6 : Go.bits .or .u64 0 9218868437227405312 = 9218868437227405312 := by decide
    have w7 : Go.bits .and .u64 0 4503599627370495 = 0 := by decide
    have HR := Lib.hid hr
    have HG := Lib.hid hg
    clear hr hg
    go_wp2_with fail
    go_quiet (fail)
    go_wp2_with fail
    go_step3
    go_wp2_with fail
    go_quiet (fail)
    go_wp2_with fail
    go_ret2
    exact ⟨by rw [HR.out]; rfl, gb_drewN HG.out _⟩
  by_cases h1 : 310 < dp
  · have g2 : decide (dp > 310) = true := decide_eq_true h1
    have HE : Hid (slowB V dp = (9218868437227405312, true)) := Lib.hid (if_pos h1)
    clear h1
    go_wp2_with fail
    go_step3
    exact Or.inr ⟨rfl, 0, 0, _, (F62_at _ _ _ _ rfl ⟨rfl, rfl, rfl, rfl, rfl, trivial⟩).symm, HE.out, World.grownBy.refl _ _, c2, t3, t4, t5⟩
  have g2 : decide (dp > 310) = false := decide_eq_false h1
  by_cases h2 : dp < -330
  · have g3 : decide (dp < -330) = true := decide_eq_true h2
    have HE : Hid (slowB V dp = (0, false)) := Lib.hid (by unfold slowB; rw [if_neg h1, if_pos h2])
    clear h1 h2
    go_wp2_with fail
    go_step3
    exact Or.inl ⟨rfl, -1023, 0, false, _, (F62_at _ _ _ _ rfl ⟨rfl, rfl, rfl, rfl, rfl, trivial⟩).symm, by omega, by omega, by rw [HE.out]; rfl, World.grownBy.refl _ _, c2, t3, t4, t5⟩
  have g3 : decide (dp < -330) = false := decide_eq_false h2
  have HE : Hid (slowB V dp = fin (lp2 3400 (lp1 3400 ⟨V, dp, false⟩ 0).1 (lp1 3400 ⟨V, dp, false⟩ 0).2).1 ((lp2 3400 (lp1 3400 ⟨V, dp, false⟩ 0).1 (lp1 3400 ⟨V, dp, false⟩ 0).2).2 - 1)) := Lib.hid (by unfold slowB; rw [if_neg h1, if_neg h2])
  go_wp2_with fail
  clear c0 c1 c2 c3 t3 t4 t5 g1 g2 g3
  rename_i KK hKK
  have HRest : ∀ (x : St) (e : Int) (a' : Act) (w1 : World), ((Big x.V ∧ -330 ≤ x.dp ∧ x.dp ≤ 0 ∧ 0 ≤ e ∧ e ≤ 91800 ∧ slowB V dp = fin (lp2 3400 x e).1 ((lp2 3400 x e).2 - 1)) ∧ (∃ nd, Dst w1 g x.V x.dp x.tr nd) ∧ w.grownBy w1 (some g)) → (F62 g false e 0 fun k => a'.tmps.getD k undef) = a' → KK a' w1 := by
    rintro x e a' w1 ⟨hF, hD, hG⟩ he
    rw [← he]
    apply hKK
    clear hKK he
    generalize (fun k => a'.tmps.getD k undef) = u
    rw [F62_lit]
    clear hdp hnd1 h1 h2
    have HD := Lib.hid hD; clear hD
    have HG := Lib.hid hG; clear hG
    have HF := Lib.hid hF; clear hF
    go_wp2_with fail
    rename_i KK2 hKK2
    have HRest : ∀ (x : St) (e : Int) (a' : Act) (w1 : World), ((Big x.V ∧ 0 ≤ x.dp ∧ x.dp ≤ 60 ∧ -91800 ≤ e ∧ e ≤ 91800 ∧ slowB V dp = fin x (e - 1)) ∧ (∃ nd, Dst w1 g x.V x.dp x.tr nd) ∧ w.grownBy w1 (some g)) → (F62 g false e 0 fun k => a'.tmps.getD k undef) = a' → KK2 a' w1 := by
      rintro x e a' w1' ⟨hF, hD, hG⟩ he
      rw [← he]
      apply hKK2
      clear hKK2 he
      generalize (fun k => a'.tmps.getD k undef) = u
      rw [F62_lit]
      have HD := Lib.hid hD; clear hD
      have HG := Lib.hid hG; clear hG
      have HF := Lib.hid hF; clear hF
      obtain ⟨f1, f2, f3, f4, f5, f6⟩ := HF.out
      have hS := SlE.later HT.out HG.out
      obtain ⟨_, _, _, t3, t4, t5⟩ := id hS
      obtain ⟨e1, he1⟩ : ∃ e1, e - 1 = e1 := ⟨_, rfl⟩
      rw [he1] at f6
      have w1 : IntKind.i64.wrap (e - 1) = e1 := by rw [he1]; exact IntWalk.i64_in _ (by omega)
      have hb1 : -91801 ≤ e1 ∧ e1 ≤ 91800 := by omega
      clear he1
      have HF6 := Lib.hid f6; clear f6
      have HB1 := Lib.hid hb1; clear hb1
      by_cases hlow : e1 < -1022
      · obtain ⟨n, hn⟩ : ∃ n : Nat, -1022 - e1 = n := ⟨(-1022 - e1).toNat, by omega⟩
        have hnb : 1 ≤ n ∧ n ≤ 100000 := by have := HB1.out; omega
        have g1 : decide (e1 < -1022) = true := decide_eq_true hlow
        obtain ⟨E, hE⟩ : ∃ E : Int, E = -1022 := ⟨_, rfl⟩
        have wn : IntKind.i64.wrap (-1022 - e1) = (n : Int) := by rw [hn]; exact IntWalk.i64_in _ (by omega)
        have wn2 : IntKind.i64.wrap (-(n : Int)) = -(n : Int) := IntWalk.i64_in _ (by omega)
        have wn3 : IntKind.i64.wrap (e1 + n) = E := by rw [show e1 + (n : Int) = E by omega]; exact IntWalk.i64_in _ (by omega)
        obtain ⟨ndx, hDx⟩ := HD.out
        have HSx := Lib.hid (shiftR_any g n x.V x.dp x.tr ndx w1' f1 hnb.1 hnb.2 ⟨by omega, by omega⟩ hDx)
        have HEy : Hid (-1022 ≤ E ∧ E ≤ 91800) := Lib.hid (by omega)
        obtain ⟨y, hy⟩ : ∃ y, shr 2000 n x = y := ⟨_, rfl⟩
        have HFy' : Hid (slowB V dp = fin y E) := Lib.hid (by
          rw [HF6.out, hE, ← hy]
          unfold fin
          rw [if_pos hlow, if_neg (show ¬ ((-1022 : Int) < -1022) by omega), hn]
          rfl)
        have hsb := shr_b 2000 n x f1 (by omega)
        rw [hy] at hsb
        rw [show (⟨x.V, x.dp, x.tr⟩ : St) = x from rfl, hy] at HSx
        obtain ⟨yV, ydp, ytr⟩ := y
        have HBy : Hid (Big yV) := Lib.hid hsb.1
        have HPy : Hid (-41000 ≤ ydp ∧ ydp ≤ 60) := Lib.hid ⟨by have := hsb.2.1; simp only at this; omega, by have := hsb.2.2; simp only at this; omega⟩
        have HFy := HFy'
        clear hE hy hsb hDx f1 f2 f3 f4 f5 hS hlow hn hnb HFy'
        go_wp2_with fail
        refine (HSx.out).mono ?_
        rintro ex WY ⟨rfl, ndy, q1, q2, q3⟩
        have HDy : Hid (∃ nd, Dst WY g yV ydp ytr nd) := Lib.hid ⟨ndy, q1⟩
        have HGy := Lib.hid (Lib.grownBy_trans HG.out q3)
        clear q1 q2 q3 t3 t4 t5
        go_wp2_with fail
        clear wn wn2 wn3 w1 g1
        have hS3 := SlE.later HT.out HGy.out
        obtain ⟨_, _, _, t3, t4, t5⟩ := id hS3
        obtain ⟨nd3, hD3⟩ := HDy.out
        have c802 : WY.cell? ⟨g, 802, none⟩ = some (.bool false) := by obtain ⟨dc3, hB3, _⟩ := hD3; exact hB3.cells.2.2.1
        have hEb := HEy.out
        have w1 : IntKind.i64.wrap (E + 1023) = E + 1023 := IntWalk.i64_in _ (by omega)
        by_cases hov : 1024 ≤ E
        · have g1 : decide (E + 1023 ≥ 2047) = true := decide_eq_true (by omega)
          have HR : Hid (slowB V dp = (9218868437227405312, true)) := Lib.hid (by rw [HFy.out]; unfold fin; rw [if_neg (show ¬ E < -1022 by omega)]; exact if_pos hov)
          clear hov hEb hD3 hS3
          go_quiet (fail)
          go_wp2_with fail
          go_step3
          exact Or.inr ⟨rfl, E, 0, _, (F62_at _ _ _ _ rfl ⟨rfl, rfl, rfl, rfl, rfl, trivial⟩).symm, HR.out, gb_drewN HGy.out _, c802, t3, t4, t5⟩
        have g1 : decide (E + 1023 ≥ 2047) = false := decide_eq_false (by omega)
        have HEc : Hid (-1022 ≤ E ∧ E < 1024) := Lib.hid ⟨by omega, by omega⟩
        have hF3 : slowB V dp = if rint (St.lsh ⟨yV, ydp, ytr⟩ 53) = 9007199254740992 then (if 1023 ≤ E then (9218868437227405312, true) else (wrd 4503599627370496 (E + 1), false)) else (wrd (rint (St.lsh ⟨yV, ydp, ytr⟩ 53)) (if rint (St.lsh ⟨yV, ydp, ytr⟩ 53) / 2 ^ 52 % 2 = 0 then -1023 else E), false) := by
          rw [HFy.out]; unfold fin; rw [if_neg (show ¬ E < -1022 by omega)]; exact if_neg hov
        have HF3 := Lib.hid hF3
        have HS3 := Lib.hid fun q => shiftL_any g yV 53 ydp ytr nd3 (WY.drewN q) hS3.lc HBy.out (by omega) (by omega) ⟨by have := HPy.out; omega, by have := HPy.out; omega⟩ hD3
        have HB3 := Lib.hid (lV_big HBy.out (show 1 ≤ 53 by omega) (by omega))
        have hdl := dl_le (V := yV) (k := 53) (by omega) (by omega)
        have HPl : Hid (-100000 ≤ ydp + (dl yV 53 : Int) ∧ ydp + (dl yV 53 : Int) ≤ 100000) := Lib.hid ⟨by have := HPy.out; omega, by have := HPy.out; omega⟩
        clear hF3 hov hdl hS3 hD3
        go_quiet (fail)
        go_wp2_with fail
        refine (HS3.out _).mono ?_
        rintro e4 w4 ⟨rfl, nd4, q1, q2, q3⟩
        have hG4 := Lib.grownBy_trans (gb_drewN HGy.out _) q3
        have hS4 := SlE.later HT.out hG4
        have HG4 := Lib.hid hG4
        clear t3 t4 t5 c802 hG4 q3
        obtain ⟨_, _, _, t3, t4, t5⟩ := id hS4
        have c802 : w4.cell? ⟨g, 802, none⟩ = some (.bool false) := by obtain ⟨dc3, hB3, _⟩ := q1; exact hB3.cells.2.2.1
        have HC4 := Lib.hid (rint_any g _ _ _ nd4 w4 HB3.out.2 HPl.out q2 q1)
        unfold RintPost at HC4
        rw [show (⟨lV yV 53, ydp + (dl yV 53 : Int), ytr || lT yV 53⟩ : St) = St.lsh ⟨yV, ydp, ytr⟩ 53 from rfl] at HC4
        obtain ⟨m, hm⟩ : ∃ m, rint (St.lsh ⟨yV, ydp, ytr⟩ 53) = m := ⟨_, rfl⟩
        rw [hm] at HC4 HF3
        have hm64 : m < 2 ^ 64 := by
          rw [← hm]; unfold rint Q64
          split
          · omega
          · exact Nat.mod_lt _ (by omega)
        clear q1 q2 hS4 hm
        go_wp2_with fail
        refine (HC4.out).mono ?_
        rintro e5 w5 ⟨rfl, rfl⟩
        by_cases hm53 : m = 9007199254740992
        · subst hm53
          have hF4 := HF3.out
          rw [if_pos rfl] at hF4
          have w7 : IntKind.i64.wrap (E + 1) = E + 1 := IntWalk.i64_in _ (by omega)
          have w8 : IntKind.i64.wrap (E + 1 + 1023) = E + 1 + 1023 := IntWalk.i64_in _ (by omega)
          have w9 : Go.bits .and .u64 4503599627370496 4503599627370496 = 4503599627370496 := by decide
          by_cases ho2 : 1023 ≤ E
          · rw [if_pos ho2] at hF4
            have HF4 := Lib.hid hF4
            have g2 : decide (E + 1 + 1023 ≥ 2047) = true := decide_eq_true (by omega)
            clear hF4 hm64 ho2
            go_wp2_with fail
            go_quiet (fail)
            go_wp2_with fail
            go_step3
            exact Or.inr ⟨rfl, E + 1, 4503599627370496, _, (F62_at _ _ _ _ rfl ⟨rfl, rfl, rfl, rfl, rfl, trivial⟩).symm, HF4.out, gb_drewN HG4.out _, c802, t3, t4, t5⟩
          · rw [if_neg ho2] at hF4
            have HF4 := Lib.hid hF4
            have g2 : decide (E + 1 + 1023 ≥ 2047) = false := decide_eq_false (by omega)
            have HE9 : Hid (-1023 ≤ E + 1 ∧ E + 1 ≤ 1024) := Lib.hid ⟨by omega, by omega⟩
            clear hF4 hm64 ho2
            go_wp2_with fail
            go_quiet (fail)
            go_wp2_with fail
            go_step3
            exact Or.inl ⟨rfl, E + 1, 4503599627370496, false, _, (F62_at _ _ _ _ rfl ⟨rfl, rfl, rfl, rfl, rfl, trivial⟩).symm, HE9.out, by omega, HF4.out, gb_drewN HG4.out _, c802, t3, t4, t5⟩
        · have hF4 := HF3.out
          rw [if_neg hm53] at hF4
          have g2 : ((m : Int) == 9007199254740992) = false := beq_false_of_ne (by omega)
          have ha := pk_and hm64
          by_cases hbit : m / 2 ^ 52 % 2 = 0
          · rw [if_pos hbit] at hF4
            have g3 : ((Go.bits .and .u64 (m : Int) 4503599627370496) == (0 : Int)) = true := by rw [ha, hbit]; rfl
            have HF4 := Lib.hid hF4
            have HM := Lib.hid hm64
            clear hF4 hm64 ha hbit hm53
            go_wp2_with fail
            go_step3
            exact Or.inl ⟨rfl, -1023, m, false, _, (F62_at _ _ _ _ rfl ⟨rfl, rfl, rfl, rfl, rfl, trivial⟩).symm, by omega, HM.out, HF4.out, HG4.out, c802, t3, t4, t5⟩
          · rw [if_neg hbit] at hF4
            have g3 : ((Go.bits .and .u64 (m : Int) 4503599627370496) == (0 : Int)) = false := by rw [ha, show m / 2 ^ 52 % 2 = 1 by omega]; rfl
            have HF4 := Lib.hid hF4
            have HM := Lib.hid hm64
            have HE9 : Hid (-1023 ≤ E ∧ E ≤ 1024) := Lib.hid ⟨by have := HEc.out; omega, by have := HEc.out; omega⟩
            clear hF4 hm64 ha hbit hm53
            go_wp2_with fail
            go_step3
            exact Or.inl ⟨rfl, E, m, false, _, (F62_at _ _ _ _ rfl ⟨rfl, rfl, rfl, rfl, rfl, trivial⟩).symm, HE9.out, HM.out, HF4.out, HG4.out, c802, t3, t4, t5⟩
      · have g1 : decide (e1 < -1022) = false := decide_eq_false hlow
        obtain ⟨yV, ydp, ytr⟩ := x
        have HBy : Hid (Big yV) := Lib.hid f1
        have HPy : Hid (-41000 ≤ ydp ∧ ydp ≤ 60) := Lib.hid ⟨by simp only at f2; omega, f3⟩
        have HDy := HD
        have HGy := HG
        have HFy := HF6
        have HEy : Hid (-1022 ≤ e1 ∧ e1 ≤ 91800) := Lib.hid ⟨by omega, HB1.out.2⟩
        obtain ⟨E, hE⟩ : ∃ E : Int, E = e1 := ⟨_, rfl⟩
        rw [← hE] at HFy HEy w1 g1
        clear hE f1 f2 f3 f4 f5 hS hlow HF6
        have WYe : ∃ WY, WY = w1' := ⟨_, rfl⟩
        obtain ⟨WY, rfl⟩ := WYe
        go_wp2_with fail
        clear w1 g1 t3 t4 t5
        have hS3 := SlE.later HT.out HGy.out
        obtain ⟨_, _, _, t3, t4, t5⟩ := id hS3
        obtain ⟨nd3, hD3⟩ := HDy.out
        have c802 : WY.cell? ⟨g, 802, none⟩ = some (.bool false) := by obtain ⟨dc3, hB3, _⟩ := hD3; exact hB3.cells.2.2.1
        have hEb := HEy.out
        have w1 : IntKind.i64.wrap (E + 1023) = E + 1023 := IntWalk.i64_in _ (by omega)
        by_cases hov : 1024 ≤ E
        · have g1 : decide (E + 1023 ≥ 2047) = true := decide_eq_true (by omega)
          have HR : Hid (slowB V dp = (9218868437227405312, true)) := Lib.hid (by rw [HFy.out]; unfold fin; rw [if_neg (show ¬ E < -1022 by omega)]; exact if_pos hov)
          clear hov hEb hD3 hS3
          go_quiet (fail)
          go_wp2_with fail
          go_step3
          exact Or.inr ⟨rfl, E, 0, _, (F62_at _ _ _ _ rfl ⟨rfl, rfl, rfl, rfl, rfl, trivial⟩).symm, HR.out, gb_drewN HGy.out _, c802, t3, t4, t5⟩
        have g1 : decide (E + 1023 ≥ 2047) = false := decide_eq_false (by omega)
        have HEc : Hid (-1022 ≤ E ∧ E < 1024) := Lib.hid ⟨by omega, by omega⟩
        have hF3 : slowB V dp = if rint (St.lsh ⟨yV, ydp, ytr⟩ 53) = 9007199254740992 then (if 1023 ≤ E then (9218868437227405312, true) else (wrd 4503599627370496 (E + 1), false)) else (wrd (rint (St.lsh ⟨yV, ydp, ytr⟩ 53)) (if rint (St.lsh ⟨yV, ydp, ytr⟩ 53) / 2 ^ 52 % 2 = 0 then -1023 else E), false) := by
          rw [HFy.out]; unfold fin; rw [if_neg (show ¬ E < -1022 by omega)]; exact if_neg hov
        have HF3 := Lib.hid hF3
        have HS3 := Lib.hid fun q => shiftL_any g yV 53 ydp ytr nd3 (WY.drewN q) hS3.lc HBy.out (by omega) (by omega) ⟨by have := HPy.out; omega, by have := HPy.out; omega⟩ hD3
        have HB3 := Lib.hid (lV_big HBy.out (show 1 ≤ 53 by omega) (by omega))
        have hdl := dl_le (V := yV) (k := 53) (by omega) (by omega)
        have HPl : Hid (-100000 ≤ ydp + (dl yV 53 : Int) ∧ ydp + (dl yV 53 : Int) ≤ 100000) := Lib.hid ⟨by have := HPy.out; omega, by have := HPy.out; omega⟩
        clear hF3 hov hdl hS3 hD3
        go_quiet (fail)
        go_wp2_with fail
        refine (HS3.out _).mono ?_
        rintro e4 w4 ⟨rfl, nd4, q1, q2, q3⟩
        have hG4 := Lib.grownBy_trans (gb_drewN HGy.out _) q3
        have hS4 := SlE.later HT.out hG4
        have HG4 := Lib.hid hG4
        clear t3 t4 t5 c802 hG4 q3
        obtain ⟨_, _, _, t3, t4, t5⟩ := id hS4
        have c802 : w4.cell? ⟨g, 802, none⟩ = some (.bool false) := by obtain ⟨dc3, hB3, _⟩ := q1; exact hB3.cells.2.2.1
        have HC4 := Lib.hid (rint_any g _ _ _ nd4 w4 HB3.out.2 HPl.out q2 q1)
        unfold RintPost at HC4
        rw [show (⟨lV yV 53, ydp + (dl yV 53 : Int), ytr || lT yV 53⟩ : St) = St.lsh ⟨yV, ydp, ytr⟩ 53 from rfl] at HC4
        obtain ⟨m, hm⟩ : ∃ m, rint (St.lsh ⟨yV, ydp, ytr⟩ 53) = m := ⟨_, rfl⟩
        rw [hm] at HC4 HF3
        have hm64 : m < 2 ^ 64 := by
          rw [← hm]; unfold rint Q64
          split
          · omega
          · exact Nat.mod_lt _ (by omega)
        clear q1 q2 hS4 hm
        go_wp2_with fail
        refine (HC4.out).mono ?_
        rintro e5 w5 ⟨rfl, rfl⟩
        by_cases hm53 : m = 9007199254740992
        · subst hm53
          have hF4 := HF3.out
          rw [if_pos rfl] at hF4
          have w7 : IntKind.i64.wrap (E + 1) = E + 1 := IntWalk.i64_in _ (by omega)
          have w8 : IntKind.i64.wrap (E + 1 + 1023) = E + 1 + 1023 := IntWalk.i64_in _ (by omega)
          have w9 : Go.bits .and .u64 4503599627370496 4503599627370496 = 4503599627370496 := by decide
          by_cases ho2 : 1023 ≤ E
          · rw [if_pos ho2] at hF4
            have HF4 := Lib.hid hF4
            have g2 : decide (E + 1 + 1023 ≥ 2047) = true := decide_eq_true (by omega)
            clear hF4 hm64 ho2
            go_wp2_with fail
            go_quiet (fail)
            go_wp2_with fail
            go_step3
            exact Or.inr ⟨rfl, E + 1, 4503599627370496, _, (F62_at _ _ _ _ rfl ⟨rfl, rfl, rfl, rfl, rfl, trivial⟩).symm, HF4.out, gb_drewN HG4.out _, c802, t3, t4, t5⟩
          · rw [if_neg ho2] at hF4
            have HF4 := Lib.hid hF4
            have g2 : decide (E + 1 + 1023 ≥ 2047) = false := decide_eq_false (by omega)
            have HE9 : Hid (-1023 ≤ E + 1 ∧ E + 1 ≤ 1024) := Lib.hid ⟨by omega, by omega⟩
            clear hF4 hm64 ho2
            go_wp2_with fail
            go_quiet (fail)
            go_wp2_with fail
            go_step3
            exact Or.inl ⟨rfl, E + 1, 4503599627370496, false, _, (F62_at _ _ _ _ rfl ⟨rfl, rfl, rfl, rfl, rfl, trivial⟩).symm, HE9.out, by omega, HF4.out, gb_drewN HG4.out _, c802, t3, t4, t5⟩
        · have hF4 := HF3.out
          rw [if_neg hm53] at hF4
          have g2 : ((m : Int) == 9007199254740992) = false := beq_false_of_ne (by omega)
          have ha := pk_and hm64
          by_cases hbit : m / 2 ^ 52 % 2 = 0
          · rw [if_pos hbit] at hF4
            have g3 : ((Go.bits .and .u64 (m : Int) 4503599627370496) == (0 : Int)) = true := by rw [ha, hbit]; rfl
            have HF4 := Lib.hid hF4
            have HM := Lib.hid hm64
            clear hF4 hm64 ha hbit hm53
            go_wp2_with fail
            go_step3
            exact Or.inl ⟨rfl, -1023, m, false, _, (F62_at _ _ _ _ rfl ⟨rfl, rfl, rfl, rfl, rfl, trivial⟩).symm, by omega, HM.out, HF4.out, HG4.out, c802, t3, t4, t5⟩
          · rw [if_neg hbit] at hF4
            have g3 : ((Go.bits .and .u64 (m : Int) 4503599627370496) == (0 : Int)) = false := by rw [ha, show m / 2 ^ 52 % 2 = 1 by omega]; rfl
            have HF4 := Lib.hid hF4
            have HM := Lib.hid hm64
            have HE9 : Hid (-1023 ≤ E ∧ E ≤ 1024) := Lib.hid ⟨by have := HEc.out; omega, by have := HEc.out; omega⟩
            clear hF4 hm64 ha hbit hm53
            go_wp2_with fail
            go_step3
            exact Or.inl ⟨rfl, E, m, false, _, (F62_at _ _ _ _ rfl ⟨rfl, rfl, rfl, rfl, rfl, trivial⟩).symm, HE9.out, HM.out, HF4.out, HG4.out, c802, t3, t4, t5⟩
    have HRest := Lib.hid HRest
    clear hKK2
    refine wp_loop_x (fun y : St × Int => F62 g false y.2 0) (fun f y w2 => Big y.1.V ∧ ms2 y.1 ≤ f ∧ f ≤ 3600 ∧ -330 ≤ y.1.dp ∧ y.1.dp ≤ 60 ∧ (0 ≤ y.2 + 27 * ((3400 : Int) - f) ∧ y.2 ≤ 91800) ∧ lp2 f y.1 y.2 = lp2 3400 x e ∧ (∃ nd, Dst w2 g y.1.V y.1.dp y.1.tr nd) ∧ w.grownBy w2 (some g)) 3400 (x, e)
      ⟨HF.out.1, by show -x.dp * 10 + 10 - (dgt x.V 0 : Int) ≤ ((3400 : Nat) : Int); have := HF.out.2.1; omega, by omega, HF.out.2.1, by have := HF.out.2.2.1; show x.dp ≤ 60; omega, by have := HF.out.2.2.2.1; have := HF.out.2.2.2.2.1; show (0 ≤ e + 27 * ((3400 : Int) - (3400 : Nat)) ∧ e ≤ 91800); omega, rfl, HD.out, HG.out⟩ (F62_at _ _ _ _ rfl ⟨rfl, rfl, rfl, rfl, rfl, trivial⟩) ?_
    rintro f ⟨⟨xV, xdp, xtr⟩, e2⟩ u2 w2 hrel K hK
    obtain ⟨h1, h2, h3, h4, h5, ⟨h6, h7⟩, h8, ⟨nd2, h9⟩, h10⟩ := hrel
    simp only at h1 h2 h4 h5 h6 h7 h8 h9
    have HK := Lib.hid hK; clear hK
    have H8 := Lib.hid h8; clear h8
    have H10 := Lib.hid h10
    have hS := SlE.later HT.out h10
    clear h10
    obtain ⟨_, _, ⟨a, cap, _, d2, d3⟩, _, _, _⟩ := id hS
    obtain ⟨dc2, hB2, hR2⟩ := id h9
    have c0 := hB2.cells.1
    have c1 := hB2.cells.2.1
    have cz := hB2.cell (show 0 < 800 by omega)
    rw [hR2.1 0 (h9.nd1 h1)] at cz
    have hd9 := dgt_lt xV 0
    clear hB2 hR2
    rw [F62_lit]
    by_cases hlow : low ⟨xV, xdp, xtr⟩ = true
    · have hp := low_pos hlow
      obtain ⟨f, rfl⟩ : ∃ f', f = f' + 1 := ⟨f - 1, by omega⟩
      have hlow2 := hlow
      unfold low at hlow
      simp only [Bool.or_eq_true, Bool.and_eq_true, decide_eq_true_eq] at hlow
      obtain ⟨N, hN⟩ : ∃ N, ptn (-xdp).toNat = N := ⟨_, rfl⟩
      have hNb := ptn_b (-xdp).toNat
      rw [hN] at hNb
      have HS := Lib.hid fun q => shiftL_any g xV N xdp xtr nd2 (w2.drewN q) hS.lc h1 hNb.1 (by omega) ⟨by omega, by omega⟩ h9
      have hE : lp2 f (St.lsh ⟨xV, xdp, xtr⟩ N) (e2 - N) = lp2 3400 x e := by
        rw [← H8.out]
        show _ = if low ⟨xV, xdp, xtr⟩ = true then _ else _
        rw [if_pos hlow2]
        show _ = lp2 f (St.lsh ⟨xV, xdp, xtr⟩ (ptn (-xdp).toNat)) (e2 - (ptn (-xdp).toNat : Nat))
        rw [hN]
      have hms := ms2_lt (x := ⟨xV, xdp, xtr⟩) h1 hNb.1 (show N ≤ 60 by omega)
      have hdl := dl_le (V := xV) (k := N) hNb.1 (by omega)
      have hn1 : Big (lV xV N) ∧ ms2 (St.lsh ⟨xV, xdp, xtr⟩ N) ≤ f ∧ f ≤ 3600 ∧ -330 ≤ xdp + (dl xV N : Int) ∧ xdp + (dl xV N : Int) ≤ 60 ∧ (0 ≤ e2 - N + 27 * ((3400 : Int) - f) ∧ e2 - N ≤ 91800) :=
        ⟨lV_big h1 hNb.1 (by omega), by omega, by omega, by omega, by omega, by omega, by omega⟩
      have HN1 := Lib.hid hn1
      have HE2 := Lib.hid hE
      have w1 : IntKind.i64.wrap (e2 - N) = e2 - N := IntWalk.i64_in _ (by omega)
      clear hn1 hE hms hdl hlow2 hp h1 h2 h3 h9 h7
      have fin2 : ∀ (act : Act) (w3 : World) (q : Nat), TrimPost (w2.drewN q) g (lV xV N) (xdp + (dl xV N : Int)) (xtr || lT xV N) (.returned (.tuple #[])) w3 → (F62 g false (e2 - N) 0 fun k => act.tmps.getD k undef) = act → K act w3 := by
        rintro act w3 q ⟨_, nd3, q1, q2, q3⟩ he
        obtain ⟨r1, r2, r3, r4, r5, r6⟩ := HN1.out
        exact HK.out f (St.lsh ⟨xV, xdp, xtr⟩ N, e2 - N) _ _ (by omega) ⟨r1, r2, r3, r4, r5, r6, HE2.out, ⟨nd3, q1⟩, Lib.grownBy_trans (gb_drewN H10.out q) q3⟩ he
      have FIN2 := Lib.hid fin2
      clear fin2 HN1 HE2 HK
      have w2' : IntKind.i64.wrap (-xdp) = -xdp := IntWalk.i64_in _ (by omega)
      by_cases h9' : xdp ≤ -9
      · have hN27 : N = 27 := by rw [← hN]; unfold ptn; rw [if_pos (by omega)]
        subst hN27
        have w1' : IntKind.i64.wrap (e2 - 27) = e2 - 27 := w1
        have g1 : decide (xdp < 0) = true := decide_eq_true (by omega)
        have g2 : decide (-xdp ≥ 9) = true := decide_eq_true (by omega)
        clear hlow hN hNb d3
        go_wp2_with fail
        go_quiet (fail)
        go_wp2_with fail
        refine (HS.out _).mono ?_
        rintro e3 w3 hp3
        have he3 := hp3.1
        subst he3
        have HP3 := Lib.hid hp3; clear hp3
        go_wp2_with fail
        exact FIN2.out _ _ _ HP3.out (F62_at _ _ _ _ rfl ⟨rfl, rfl, rfl, rfl, rfl, trivial⟩)
      · have hNp : pt.getD (-xdp).toNat 1 = N := by rw [← hN]; unfold ptn; rw [if_neg (by omega)]
        have d4 := d3 (-xdp).toNat (by omega)
        rw [hNp] at d4
        have g2 : decide (-xdp ≥ 9) = false := decide_eq_false (by omega)
        have b1 : -xdp < 9 := by omega
        have b2 : 0 ≤ -xdp := by omega
        by_cases hneg : xdp < 0
        · have g1 : decide (xdp < 0) = true := decide_eq_true hneg
          clear hlow hN hNb d3 hNp
          go_wp2_with fail
          go_quiet (fail)
          go_wp2_with fail
          go_quiet (fail)
          go_wp2_with fail
          refine (HS.out _).mono ?_
          rintro e3 w3 hp3
          have he3 := hp3.1
          subst he3
          have HP3 := Lib.hid hp3; clear hp3
          go_wp2_with fail
          exact FIN2.out _ _ _ HP3.out (F62_at _ _ _ _ rfl ⟨rfl, rfl, rfl, rfl, rfl, trivial⟩)
        · have hz : xdp = 0 := by omega
          have hd5 : dgt xV 0 < 5 := by omega
          have g1 : decide (xdp < 0) = false := decide_eq_false hneg
          have g3 : (xdp == 0) = true := by simp [hz]
          obtain ⟨d, hd⟩ : ∃ d, 48 + dgt xV 0 = d := ⟨_, rfl⟩
          rw [hd] at cz
          have g4 : decide ((d : Int) < 53) = true := decide_eq_true (by omega)
          have HZ := Lib.hid hz
          clear hlow hN hNb d3 hNp hz hd hd5
          go_wp2_with fail
          go_quiet (fail)
          go_wp2_with fail
          go_quiet (fail)
          go_wp2_with fail
          refine (HS.out _).mono ?_
          rintro e3 w3 hp3
          have he3 := hp3.1
          subst he3
          have HP3 := Lib.hid hp3; clear hp3
          go_wp2_with fail
          exact FIN2.out _ _ _ HP3.out (F62_at _ _ _ _ rfl ⟨rfl, rfl, rfl, rfl, rfl, trivial⟩)
    · have hx : lp2 f ⟨xV, xdp, xtr⟩ e2 = (⟨xV, xdp, xtr⟩, e2) := by
        cases f with
        | zero => rfl
        | succ f => show (if low ⟨xV, xdp, xtr⟩ = true then _ else _) = _; rw [if_neg hlow]
      have hlow' := hlow
      unfold low at hlow'
      simp only [Bool.or_eq_true, Bool.and_eq_true, decide_eq_true_eq] at hlow'
      have hF2 : Big xV ∧ 0 ≤ xdp ∧ xdp ≤ 60 ∧ -91800 ≤ e2 ∧ e2 ≤ 91800 ∧ slowB V dp = fin ⟨xV, xdp, xtr⟩ (e2 - 1) :=
        ⟨h1, by omega, h5, by omega, h7, by rw [HF.out.2.2.2.2.2, ← H8.out, hx]⟩
      have HF2 := Lib.hid hF2
      have g1 : decide (xdp < 0) = false := decide_eq_false (by omega)
      have H9 := Lib.hid h9
      clear hF2 hx hlow h1 h2 h9 h6 h7 d3
      by_cases hz : xdp = 0
      · have g3 : (xdp == 0) = true := by simp [hz]
        have hd5 : ¬ dgt xV 0 < 5 := by omega
        obtain ⟨d, hd⟩ : ∃ d, 48 + dgt xV 0 = d := ⟨_, rfl⟩
        rw [hd] at cz
        have g4 : decide ((d : Int) < 53) = false := decide_eq_false (by omega)
        clear hlow' hz hd5 hd
        go_wp2_with fail
        exact HRest.out ⟨xV, xdp, xtr⟩ _ _ _ ⟨HF2.out, ⟨_, H9.out⟩, H10.out⟩ (F62_at _ _ _ _ rfl ⟨rfl, rfl, rfl, rfl, rfl, trivial⟩)
      · have g3 : (xdp == 0) = false := by simp [hz]
        clear hlow' hz
        go_wp2_with fail
        exact HRest.out ⟨xV, xdp, xtr⟩ _ _ _ ⟨HF2.out, ⟨_, H9.out⟩, H10.out⟩ (F62_at _ _ _ _ rfl ⟨rfl, rfl, rfl, rfl, rfl, trivial⟩)
  have HRest := Lib.hid HRest
  clear hKK
  refine wp_loop_x (fun y : St × Int => F62 g false y.2 0) (fun f y w2 => Big y.1.V ∧ ms1 y.1 ≤ f ∧ f ≤ 3400 ∧ -330 ≤ y.1.dp ∧ y.1.dp ≤ 400 ∧ (0 ≤ y.2 ∧ y.2 ≤ 27 * ((3400 : Int) - f)) ∧ lp1 f y.1 y.2 = lp1 3400 ⟨V, dp, false⟩ 0 ∧ (∃ nd, Dst w2 g y.1.V y.1.dp y.1.tr nd) ∧ w.grownBy w2 (some g)) 3400 (⟨V, dp, false⟩, 0)
    ⟨HV.out, by show dp * 10 + (dgt V 0 : Int) ≤ ((3400 : Nat) : Int); have := dgt_lt V 0; omega, by omega, by show -330 ≤ dp; omega, by show dp ≤ 400; omega, by show (0 : Int) ≤ 0 ∧ (0 : Int) ≤ 27 * ((3400 : Int) - (3400 : Nat)); omega, rfl, ⟨nd, HH.out⟩, World.grownBy.refl _ _⟩ (F62_at _ _ _ _ rfl ⟨rfl, rfl, rfl, rfl, rfl, trivial⟩) ?_
  rintro f ⟨⟨xV, xdp, xtr⟩, e2⟩ u2 w2 hrel K hK
  clear h1 h2
  obtain ⟨h1, h2, h3, h4, h5, ⟨h6, h7⟩, h8, ⟨nd2, h9⟩, h10⟩ := hrel
  simp only at h1 h2 h4 h5 h6 h7 h8 h9
  have HK := Lib.hid hK; clear hK
  have H8 := Lib.hid h8; clear h8
  have H10 := Lib.hid h10
  have hS := SlE.later HT.out h10
  clear h10
  obtain ⟨_, _, ⟨a, cap, _, d2, d3⟩, _, _, _⟩ := id hS
  obtain ⟨dc2, hB2, hR2⟩ := id h9
  have c1 := hB2.cells.2.1
  clear hB2 hR2 hdp hnd1
  have hd9 := dgt_lt xV 0
  have hms : ms1 ⟨xV, xdp, xtr⟩ = xdp * 10 + (dgt xV 0 : Int) := rfl
  rw [F62_lit]
  by_cases hpos : 0 < xdp
  · obtain ⟨f, rfl⟩ : ∃ f', f = f' + 1 := ⟨f - 1, by omega⟩
    obtain ⟨N, hN⟩ : ∃ N, ptn xdp.toNat = N := ⟨_, rfl⟩
    have hNb := ptn_b xdp.toNat
    rw [hN] at hNb
    have hsh : shr 2000 N ⟨xV, xdp, xtr⟩ = St.rsh ⟨xV, xdp, xtr⟩ N := by show (if 60 < N then _ else _) = _; rw [if_neg (by omega)]
    have hS2 := fun q => shiftR_any g N xV xdp xtr nd2 (w2.drewN q) h1 hNb.1 (by omega) ⟨by omega, by omega⟩ h9
    rw [hsh] at hS2
    have HS := Lib.hid hS2
    have hE : lp1 f (St.rsh ⟨xV, xdp, xtr⟩ N) (e2 + N) = lp1 3400 ⟨V, dp, false⟩ 0 := by
      rw [← H8.out]
      show _ = if 0 < xdp then _ else _
      rw [if_pos hpos]
      show _ = lp1 f (St.rsh ⟨xV, xdp, xtr⟩ (ptn xdp.toNat)) (e2 + (ptn xdp.toNat : Nat))
      rw [hN]
    have hml := ms1_lt (x := ⟨xV, xdp, xtr⟩) h1 hNb.1 (show N ≤ 60 by omega)
    have hr0 := r0_spec h1 (show N ≤ 60 by omega)
    have hn1 : Big (rV xV N) ∧ ms1 (St.rsh ⟨xV, xdp, xtr⟩ N) ≤ f ∧ f ≤ 3400 ∧ -330 ≤ xdp - ((r0 xV N : Int) - 1) ∧ xdp - ((r0 xV N : Int) - 1) ≤ 400 ∧ (0 ≤ e2 + N ∧ e2 + N ≤ 27 * ((3400 : Int) - f)) :=
      ⟨rV_big h1 (by omega), by omega, by omega, by omega, by omega, by omega, by omega⟩
    have HN1 := Lib.hid hn1
    have HE2 := Lib.hid hE
    have w1 : IntKind.i64.wrap (e2 + N) = e2 + N := IntWalk.i64_in _ (by omega)
    have w2' : IntKind.i64.wrap (-(N : Int)) = -(N : Int) := IntWalk.i64_in _ (by omega)
    have fin2 : ∀ (act : Act) (w3 : World) (q : Nat), TrimPost (w2.drewN q) g (St.rsh ⟨xV, xdp, xtr⟩ N).V (St.rsh ⟨xV, xdp, xtr⟩ N).dp (St.rsh ⟨xV, xdp, xtr⟩ N).tr (.returned (.tuple #[])) w3 → (F62 g false (e2 + N) 0 fun k => act.tmps.getD k undef) = act → K act w3 := by
      rintro act w3 q ⟨_, nd3, q1, q2, q3⟩ he
      obtain ⟨r1, r2, r3, r4, r5, r6⟩ := HN1.out
      exact HK.out f (St.rsh ⟨xV, xdp, xtr⟩ N, e2 + N) _ _ (by omega) ⟨r1, r2, r3, r4, r5, r6, HE2.out, ⟨nd3, q1⟩, Lib.grownBy_trans (gb_drewN H10.out q) q3⟩ he
    have FIN2 := Lib.hid fin2
    have g1 : decide (xdp > 0) = true := decide_eq_true hpos
    clear fin2 HN1 HE2 HK hn1 hE hml hms h1 h2 h3 h9 h6 h7 hS2 hsh hr0
    by_cases h9' : 9 ≤ xdp
    · have hN27 : N = 27 := by rw [← hN]; unfold ptn; rw [if_pos (by omega)]
      subst hN27
      have w1' : IntKind.i64.wrap (e2 + 27) = e2 + 27 := w1
      have g2 : decide (xdp ≥ 9) = true := decide_eq_true h9'
      clear hN hNb d3
      go_wp2_with fail
      go_quiet (fail)
      go_wp2_with fail
      refine (HS.out _).mono ?_
      rintro e3 w3 hp3
      have he3 := hp3.1
      subst he3
      have HP3 := Lib.hid hp3; clear hp3
      go_wp2_with fail
      exact FIN2.out _ _ _ HP3.out (F62_at _ _ _ _ rfl ⟨rfl, rfl, rfl, rfl, rfl, trivial⟩)
    · have hNp : pt.getD xdp.toNat 1 = N := by rw [← hN]; unfold ptn; rw [if_neg (by omega)]
      have d4 := d3 xdp.toNat (by omega)
      rw [hNp] at d4
      have g2 : decide (xdp ≥ 9) = false := decide_eq_false (by omega)
      have b1 : xdp < 9 := by omega
      clear hN hNb d3 hNp
      go_wp2_with fail
      go_quiet (fail)
      go_wp2_with fail
      go_quiet (fail)
      go_wp2_with fail
      refine (HS.out _).mono ?_
      rintro e3 w3 hp3
      have he3 := hp3.1
      subst he3
      have HP3 := Lib.hid hp3; clear hp3
      go_wp2_with fail
      exact FIN2.out _ _ _ HP3.out (F62_at _ _ _ _ rfl ⟨rfl, rfl, rfl, rfl, rfl, trivial⟩)
  · have hx : lp1 f ⟨xV, xdp, xtr⟩ e2 = (⟨xV, xdp, xtr⟩, e2) := by
      cases f with
      | zero => rfl
      | succ f => show (if 0 < xdp then _ else _) = _; rw [if_neg hpos]
    have g1 : decide (xdp > 0) = false := decide_eq_false hpos
    have hF2 : Big xV ∧ -330 ≤ xdp ∧ xdp ≤ 0 ∧ 0 ≤ e2 ∧ e2 ≤ 91800 ∧ slowB V dp = fin (lp2 3400 ⟨xV, xdp, xtr⟩ e2).1 ((lp2 3400 ⟨xV, xdp, xtr⟩ e2).2 - 1) :=
      ⟨h1, by omega, by omega, by omega, by omega, by rw [HE.out, ← H8.out, hx]⟩
    have HF2 := Lib.hid hF2
    have H9 := Lib.hid h9
    clear hF2 hx hpos h1 h2 h9 h6 h7 d3 hms
    go_wp2_with fail
    exact HRest.out ⟨xV, xdp, xtr⟩ _ _ _ ⟨HF2.out, ⟨_, H9.out⟩, H10.out⟩ (F62_at _ _ _ _ rfl ⟨rfl, rfl, rfl, rfl, rfl, trivial⟩)
end Go.Proofs.YtblphppdfiipfaaDoor
