/- minify.Number keeps the value (plain); spec.Decimal. Conditions: none. -/
import Derived.Test.YtblphppdfiipfaaDoorCFrames
import Derived.Laws.CopyOwn
import Derived.StillTailTactics
import Derived.Test.YtblphppdfiipfaaDoorCMinA
import Derived.Test.YtblphppdfiipfaaDoorCFloD
namespace Go.Proofs.YtblphppdfiipfaaDoor
open Go.RowKit
set_option maxRecDepth 100000

/-- L bytes from s on are laid at d -/
def cpy (c : Nat → Nat) (d s L : Nat) : Nat → Nat := fun j => if d ≤ j ∧ j < d + L then c (j - d + s) else c j
theorem info5s : (Tryd.prog.info? 5).map (·.size) = some 1 := by kernel_rfl
theorem run_store_bytes {g N : Nat} (o : Nat) (cs : Nat → Nat) : ∀ (L i : Nat) (w : World) (c : Nat → Nat), Blk w g N c → o + i + L ≤ N →
    ∃ w', (storeCells ⟨g, o, none⟩ ((List.range' i L).map fun j => Value.int .u8 (cs j : Int)) i).run Tryd.prog w = .ok () w' ∧ Blk w' g N (fun j => if o + i ≤ j ∧ j < o + i + L then cs (j - o) else c j) ∧ w.grownBy w' (some g)
  | 0, i, w, c, hB, _ => ⟨w, rfl, hB.congr fun j _ => by rw [if_neg (by omega)], World.grownBy.refl _ _⟩
  | L + 1, i, w, c, hB, hN => by
    have hadd : (⟨g, o, none⟩ : Addr).add i = ⟨g, o + i, none⟩ := by unfold Addr.add; split <;> simp_all
    have hst : (store ((⟨g, o, none⟩ : Addr).add i) (Value.int .u8 (cs i : Int))).run Tryd.prog w = .ok () (w.setCell ⟨g, o + i, none⟩ (.int .u8 (cs i : Int))) := by
      rw [hadd, run_store Tryd.prog w _ _ _ rfl, hB.cell (o + i) (by omega)]
      simp [hB.free (o + i) (by omega)]
    obtain ⟨w', h1, h2, h3⟩ := run_store_bytes o cs L (i + 1) _ _ (hB.set (o + i) (cs i) (by omega)) (by omega)
    refine ⟨w', ?_, h2.congr fun j _ => ?_, Lib.grownBy_trans (gb_set (World.grownBy.refl _ _) _ _) h3⟩
    · rw [List.range'_succ, List.map_cons]
      simp only [storeCells, Sem.run_bind, hst, Result.andThen_ok, h1]
    · unfold upb
      by_cases e : j = o + i
      · rw [if_neg (by omega), if_pos e, if_pos (by omega)]; congr 1; omega
      · by_cases e2 : o + i ≤ j ∧ j < o + i + (L + 1)
        · rw [if_pos (by omega), if_pos e2]
        · rw [if_neg (by omega), if_neg e, if_neg e2]
theorem step_copy_blk {ops : Array Oper} {o : Oper} {a : Act} {w : World} {K : Act → World → Prop} {Q : Exit → Act → World → Prop} {E : Prop} (hgd : o.guard = none) (d s : Operand)
    (ho : o.op = .call { callee := .builtin .copy, args := #[d, s], argTypes := #[33, 33] }) (g N : Nat) (c : Nat → Nat) (hB : Blk w g N c) (dO sO dL dC sL sC : Nat)
    (hd : a.eval d = .slice (some ⟨g, dO, none⟩) dL dC) (hs : a.eval s = .slice (some ⟨g, sO, none⟩) sL sC) (L : Nat) (hL : L = Nat.min sL dL) (h1 : dO + L ≤ N) (h2 : sO + L ≤ N)
    (h : ∀ w', Blk w' g N (cpy c dO sO L) → w.grownBy w' (some g) → K (a.put o.dst (goInt L)) w') :
    if Region.wanted o (yielded ops a.tmps) = true then Oper.wp Tryd.prog o a w K Q else E := by
  have hw : Region.wanted o (yielded ops a.tmps) = true := by simp [Region.wanted, hgd]
  rw [if_pos hw]
  have hcl : ((List.range' 0 L).map fun j => Value.int .u8 (c (sO + j) : Int)).length = L := by simp
  have hl := run_loadCells_list (P := Tryd.prog) w ⟨g, sO, none⟩ ((List.range' 0 L).map fun j => Value.int .u8 (c (sO + j) : Int)) (fun j v hj => by
      rw [List.getElem?_map] at hj
      by_cases e : j < L
      · rw [List.getElem?_range' e] at hj
        simp only [Option.map_some, Option.some.injEq, Nat.zero_add, Nat.one_mul] at hj
        rw [← hj]
        have := hB.cell (sO + j) (by omega)
        unfold Addr.add
        by_cases hj0 : j = 0
        · rw [if_pos hj0]; rw [hj0] at this ⊢; exact this
        · rw [if_neg hj0]; exact this
      · rw [List.getElem?_eq_none (by simpa using e)] at hj
        exact absurd hj (by simp))
  obtain ⟨w', hst, hB2, hG2⟩ := run_store_bytes (g := g) (N := N) dO (fun j => c (sO + j)) L 0 w c hB (by omega)
  have hrun : (Builtin.copy_ #[33, 33] o.type #[.slice (some ⟨g, dO, none⟩) dL dC, .slice (some ⟨g, sO, none⟩) sL sC]).run Tryd.prog w = .ok (goInt L) w' := by
    rw [hcl] at hl
    cases hq : Tryd.prog.info? 5 with
    | none => have := info5s; rw [hq] at this; exact absurd this (by simp)
    | some i =>
      have hi : i.size = 1 := by have := info5s; rw [hq] at this; simpa using this
      simp [Builtin.copy_, run_underlying Tryd.underlying33, Builtin.lenOf, Builtin.firstCells, sizeOf, typeInfo, hq, hi, ← hL, hl, hst]
  unfold Oper.wp
  simp [execOp, ho, resolve, invoke, builtin, hd, hs, hrun, Result.andThen]
  refine h w' (hB2.congr fun j _ => ?_) hG2
  unfold cpy
  by_cases e : dO ≤ j ∧ j < dO + L
  · rw [if_pos (by omega), if_pos e]
    show c (sO + (j - dO)) = _
    congr 1; omega
  · rw [if_neg (by omega), if_neg e]
theorem wpList_copy_blk {ops : Array Oper} {rest : List Oper} {o : Oper} {a : Act} {w : World} {Q : Exit → Act → World → Prop} (hgd : o.guard = none) (d s : Operand)
    (ho : o.op = .call { callee := .builtin .copy, args := #[d, s], argTypes := #[33, 33] }) (g N : Nat) (c : Nat → Nat) (hB : Blk w g N c) (dO sO dL dC sL sC : Nat)
    (hd : a.eval d = .slice (some ⟨g, dO, none⟩) dL dC) (hs : a.eval s = .slice (some ⟨g, sO, none⟩) sL sC) (L : Nat) (hL : L = Nat.min sL dL) (h1 : dO + L ≤ N) (h2 : sO + L ≤ N)
    (h : ∀ w', Hid (Blk w' g N (cpy c dO sO L)) → Hid (w.grownBy w' (some g)) → wpList Tryd.prog ops Q rest (a.put o.dst (goInt L)) w') :
    wpList Tryd.prog ops Q (o :: rest) a w := by
  refine wpList_plain hgd fun K hK => ?_
  have hw := step_copy_blk (ops := ops) (K := K) (Q := Q) (E := True) hgd d s ho g N c hB dO sO dL dC sL sC hd hs L hL h1 h2 (fun w' h3 h4 => hK _ _ (h w' (Lib.hid h3) (Lib.hid h4)))
  rw [if_pos (by simp [Region.wanted, hgd])] at hw
  exact hw
set_option maxRecDepth 100000

set_option maxHeartbeats 1000000 in
theorem n9_z (g N cap S e : Nat) (w : World) (Post : Ending → World → Prop) (a : Act) (ha : (F9z g N cap S e fun k => a.tmps.getD k undef) = a) (hS : S < e) (he : e ≤ N) (hc : N ≤ cap)
    (hfin : ∀ capx : Nat, Post (.returned (.slice (some ⟨g, S, none⟩) (e - S) capx)) w) :
    Code.wp Tryd.prog (t9 24) (bodyPost Tryd.prog Tryd.f9 Post) a w := by
  rw [← ha]
  clear ha
  generalize (fun k => a.tmps.getD k undef) = u
  have HF := Lib.hid hfin
  clear hfin
  conv => arg 2; whnf
  rw [F9z_lit, sg825_36, sg825_63, sg825_677]
  go_wp2
  exact HF.out _

/-- digits of x, written from the back -/
def WrT (c c1 : Nat → Nat) (o L x t : Nat) : Prop := (∀ j, j < t → c (o + L - 1 - j) = 48 + x / 10 ^ j % 10) ∧ ∀ j, (j < o ∨ o + L ≤ j) → c j = c1 j
theorem WrT.zero (c1 : Nat → Nat) (o L x : Nat) : WrT c1 c1 o L x 0 := ⟨fun j h => absurd h (by omega), fun _ _ => rfl⟩
theorem WrT.next {c c1 : Nat → Nat} {o L x t i v : Nat} (h : WrT c c1 o L x t) (ht : t < L) (hi : i = o + L - 1 - t) (hv : v = x / 10 ^ t) : WrT (upb c i (v % 10 + 48)) c1 o L x (t + 1) := by
  refine ⟨fun j hj => ?_, fun j hj => ?_⟩
  · unfold upb
    by_cases e : j = t
    · subst e; rw [if_pos hi.symm, hv]; omega
    · rw [if_neg (by omega)]; exact h.1 j (by omega)
  · unfold upb
    rw [if_neg (by omega)]; exact h.2 j hj
theorem WrT.all {c c1 : Nat → Nat} {o L x : Nat} (h : WrT c c1 o L x L) : Wr c o L x := h.1
theorem div_next (x t : Nat) : x / 10 ^ (t + 1) = x / 10 ^ t / 10 := by rw [Nat.pow_succ, ← Nat.div_div_eq_div_mul]

/-- behind the digits: zeros, or an exponent -/
def Tl1 (c c1 : Nat → Nat) (e n e' x : Nat) (E : Int) : Prop :=
  (∀ j, j < e → c j = c1 j) ∧ ((n + 3 ≤ E ∧ e' = e + 1 + dl x ∧ c e = 101 ∧ Wr c (e + 1) (dl x) x) ∨ (E ≤ n + 2 ∧ e' = e + x ∧ ∀ j, e ≤ j → j < e' → c j = 48))
set_option maxHeartbeats 4000000 in
theorem n9_c1b (g N cap S e n x : Nat) (E : Int) (c1 : Nat → Nat) (w : World) (K : Act → World → Prop) (Q : Exit → Act → World → Prop) (a : Act) (ha : (F9p g N cap S e n E x (dl x) fun k => a.tmps.getD k undef) = a)
    (hB : Blk w g N c1) (hN : N ≤ 100) (he : 1 ≤ e) (heN : e ≤ N) (hn : n ≤ 100) (hx : E = n + x) (hx1 : x < 100000) (hr1 : n + 3 ≤ E → e + 1 + dl x ≤ N) (hr2 : E ≤ n + 2 → e + x ≤ N)
    (hfin : ∀ (e' : Nat) (c' : Nat → Nat) (a : Act) (w' : World), Blk w' g N c' → w.grownBy w' (some g) → Tl1 c' c1 e n e' x E → (F9z g N cap S e' fun k => a.tmps.getD k undef) = a → K a w') :
    Code.wp Tryd.prog (c9 [false, true, false, true]) (Exit.then K Q) a w := by
  rw [← ha]
  clear ha
  generalize (fun k => a.tmps.getD k undef) = u
  have HF := Lib.hid hfin
  have HB := Lib.hid hB
  clear hfin hB
  conv => arg 2; whnf
  rw [F9p_lit, sg825_36, sg825_63, sg825_677]
  have hdl := dl_cases x hx1
  have hdl1 : 1 ≤ dl x ∧ dl x ≤ 5 := by omega
  clear hdl
  obtain ⟨hd1, hd5⟩ := hdl1
  obtain ⟨L, hL⟩ : ∃ L, dl x = L := ⟨_, rfl⟩
  rw [hL] at hd1 hd5 hr1 ⊢
  have HL := Lib.hid hL
  clear hL
  by_cases h3 : (n : Int) + 3 ≤ E
  · have g1 : decide ((n : Int) + 3 ≤ E) = true := decide_eq_true h3
    have hr := hr1 h3
    have HX := Lib.hid hx
    clear hx
    have H3 := Lib.hid h3
    clear hr1 hr2 h3
    have f1 := HB.out.free e (by omega)
    have k1 := HB.out.cell e (by omega)
    have b1 : (e : Int) < N := by omega
    have hb2 := HB.out.set e 101 (by omega)
    have hg2 := gb_set (World.grownBy.refl w (some g)) e (Value.int .u8 (101 : Int))
    go_wp2
    rw [show (e : Int) + 1 + L - 1 = ((e + 1 + L - 1 : Nat) : Int) from by omega]
    rename_i KK hKK
    have HR : ∀ (v i : Nat) (c' : Nat → Nat) (a' : Act) (w1 : World), Blk w1 g N c' → w.grownBy w1 (some g) → WrT c' (upb c1 e 101) (e + 1) L x L → (F9x g N cap S (e + 1) v L i fun k => a'.tmps.getD k undef) = a' → KK a' w1 := by
      rintro v i c' a' w1 hBc hGc hW he2
      rw [← he2]
      apply hKK
      clear hKK he2
      generalize (fun k => a'.tmps.getD k undef) = u
      rw [F9x_lit, sg825_36, sg825_63, sg825_677]
      have HBC := Lib.hid hBc
      have HGC := Lib.hid hGc
      have HW := Lib.hid hW
      clear hBc hGc hW f1 k1
      go_wp2
      refine HF.out (e + 1 + L) c' _ _ HBC.out HGC.out ⟨fun j hj => by rw [HW.out.2 j (by omega)]; unfold upb; rw [if_neg (by omega)], .inl ⟨H3.out, by rw [HL.out], by rw [HW.out.2 e (by omega)]; unfold upb; rw [if_pos rfl], by rw [HL.out]; exact HW.out.all⟩⟩ (F9z_at _ _ _ _ _ rfl ⟨rfl, rfl, rfl, rfl, vi (by omega), trivial⟩)
    have HR := Lib.hid HR
    clear hKK
    have HB2 := Lib.hid hb2
    have HG2 := Lib.hid hg2
    clear hb2 hg2
    refine wp_loop_x (fun y : Nat × Nat => F9x g N cap S (e + 1) y.1 L y.2) (fun m y w' => m ≤ L ∧ y.1 = x / 10 ^ (L - m) ∧ y.2 = e + 1 + L - 1 - (L - m) ∧ ∃ c', Blk w' g N c' ∧ w.grownBy w' (some g) ∧ WrT c' (upb c1 e 101) (e + 1) L x (L - m)) L (x, e + 1 + L - 1)
      ⟨Nat.le_refl _, by simp, by simp, upb c1 e 101, HB2.out, HG2.out, by rw [Nat.sub_self]; exact WrT.zero _ _ _ _⟩ (F9x_at _ _ _ _ _ _ _ _ rfl ⟨rfl, rfl, rfl, rfl, rfl, rfl, rfl, rfl, trivial⟩) ?_
    clear f1 k1
    rintro m ⟨v, i⟩ u w2 ⟨hm, hv, hi, c', hBc, hGc, hW⟩ K2 hK2
    simp only at hv hi
    have HK := Lib.hid hK2
    have HBC := Lib.hid hBc
    have HGC := Lib.hid hGc
    have HW := Lib.hid hW
    have HV := Lib.hid hv
    clear hK2 hBc hGc hW
    have hv5 : v < 100000 := Nat.lt_of_le_of_lt (by rw [hv]; exact Nat.div_le_self _ _) hx1
    clear hv
    rw [F9x_lit, sg825_36, sg825_63, sg825_677]
    by_cases hm0 : m = 0
    · subst hm0
      have l1 : decide ((e : Int) + 1 ≤ i) = false := decide_eq_false (by omega)
      have l1' : decide (((e + 1 : Nat) : Int) ≤ i) = false := decide_eq_false (by omega)
      clear hi
      go_wp2
      exact HR.out v i c' _ _ HBC.out HGC.out HW.out (F9x_at _ _ _ _ _ _ _ _ rfl ⟨rfl, rfl, rfl, rfl, rfl, rfl, rfl, rfl, trivial⟩)
    · have l1 : decide ((e : Int) + 1 ≤ i) = true := decide_eq_true (by omega)
      have l1' : decide (((e + 1 : Nat) : Int) ≤ i) = true := decide_eq_true (by omega)
      have f1 := HBC.out.free i (by omega)
      have k1 := HBC.out.cell i (by omega)
      have b1 : (i : Int) < N := by omega
      have y1 : IntKind.u8.wrap ((v : Int) % 10) = (v : Int) % 10 := IntWalk.u8_in _ (by omega)
      have y2 : IntKind.u8.wrap ((v : Int) % 10 + 48) = ((v % 10 + 48 : Nat) : Int) := by rw [show (v : Int) % 10 + 48 = ((v % 10 + 48 : Nat) : Int) by omega]; exact IntWalk.u8_in _ (by omega)
      have hi1 : 1 ≤ i := by omega
      have HI := Lib.hid hi
      clear hi
      go_wp2
      rw [show (i : Int) - 1 = ((i - 1 : Nat) : Int) from by omega]
      exact HK.out (m - 1) (v / 10, i - 1) _ _ (by omega) ⟨by omega, by show v / 10 = _; rw [show L - (m - 1) = (L - m) + 1 by omega, div_next, ← HV.out], by show i - 1 = _; have := HI.out; omega, upb c' i (v % 10 + 48), HBC.out.set i _ (by omega), gb_set HGC.out _ _, by
        rw [show L - (m - 1) = (L - m) + 1 by omega]; exact HW.out.next (by omega) HI.out HV.out⟩ (F9x_at _ _ _ _ _ _ _ _ rfl ⟨rfl, rfl, rfl, rfl, rfl, vi (by omega), rfl, rfl, trivial⟩)
  · have g1 : decide ((n : Int) + 3 ≤ E) = false := decide_eq_false h3
    have hr := hr2 (by omega)
    have hx2 : x = 0 ∨ x = 1 ∨ x = 2 := by omega
    clear hr1 hr2 h3 HL
    rcases hx2 with rfl | rfl | rfl
    · have g2 : ((n : Int) + 2 == E) = false := beq_false_of_ne (by omega)
      have g3 : ((n : Int) + 1 == E) = false := beq_false_of_ne (by omega)
      have HX := Lib.hid hx
      clear hx
      go_wp2
      exact HF.out e c1 _ _ HB.out (World.grownBy.refl _ _) ⟨fun _ _ => rfl, .inr ⟨by have := HX.out; omega, rfl, fun j h1 h2 => absurd h1 (by omega)⟩⟩ (F9z_at _ _ _ _ _ rfl ⟨rfl, rfl, rfl, rfl, rfl, trivial⟩)
    · have g2 : ((n : Int) + 2 == E) = false := beq_false_of_ne (by omega)
      have g3 : ((n : Int) + 1 == E) = true := by simp; omega
      have HX := Lib.hid hx
      clear hx
      have f1 := HB.out.free e (by omega)
      have k1 := HB.out.cell e (by omega)
      have b1 : (e : Int) < N := by omega
      have HB2 := Lib.hid (HB.out.set e 48 (by omega))
      go_wp2
      exact HF.out (e + 1) (upb c1 e 48) _ _ HB2.out (gb_set (World.grownBy.refl _ _) _ _) ⟨fun j hj => by unfold upb; rw [if_neg (by omega)], .inr ⟨by have := HX.out; omega, rfl, fun j h1 h2 => by unfold upb; rw [if_pos (by omega)]⟩⟩ (F9z_at _ _ _ _ _ rfl ⟨rfl, rfl, rfl, rfl, vi (by omega), trivial⟩)
    · have g2 : ((n : Int) + 2 == E) = true := by simp; omega
      have HX := Lib.hid hx
      clear hx
      have f1 := HB.out.free e (by omega)
      have k1 := HB.out.cell e (by omega)
      have b1 : (e : Int) < N := by omega
      have b2 : (e : Int) + 1 < N := by omega
      have HB2 := Lib.hid ((HB.out.set e 48 (by omega)).set (e + 1) 48 (by omega))
      have f2 := HB.out.free (e + 1) (by omega)
      have k2 := HB.out.cell (e + 1) (by omega)
      go_wp2
      exact HF.out (e + 2) (upb (upb c1 e 48) (e + 1) 48) _ _ HB2.out (gb_set (gb_set (World.grownBy.refl _ _) _ _) _ _) ⟨fun j hj => by unfold upb; rw [if_neg (by omega), if_neg (by omega)], .inr ⟨by have := HX.out; omega, rfl, fun j h1 h2 => by
        unfold upb
        by_cases e1 : j = e + 1
        · rw [if_pos e1]
        · rw [if_neg e1, if_pos (by omega)]⟩⟩ (F9z_at _ _ _ _ _ rfl ⟨rfl, rfl, rfl, rfl, vi (by omega), trivial⟩)

/-- the digits that count, as they stand: start, end, how many, the point, the digits -/
def KE (c : Nat → Nat) (q k st e n : Nat) (nx : Int) (d : Nat → Nat) : Prop :=
  (∃ m, st = k ∧ K1 c q k e m ∧ n = e - m ∧ nx = (k : Int) - m + 1 ∧ d = fun j => c (m + j)) ∨ (st = 0 ∧ K2 c q k n ∧ e = n ∧ nx = k ∧ d = fun j => c j) ∨
  (st = 0 ∧ K3 c q k e ∧ n = e - 1 ∧ nx = k ∧ d = fun j => c (dpos k j))
theorem KD.ke {c : Nat → Nat} {q k st e n : Nat} {nx : Int} (h : KD c q k st e n nx) : ∃ d, KE c q k st e n nx d := by
  rcases h with ⟨m, h1, h2, h3, h4⟩ | ⟨h1, h2, h3, h4⟩ | ⟨h1, h2, h3, h4⟩
  · exact ⟨_, .inl ⟨m, h1, h2, h3, h4, rfl⟩⟩
  · exact ⟨_, .inr (.inl ⟨h1, h2, h3, h4, rfl⟩)⟩
  · exact ⟨_, .inr (.inr ⟨h1, h2, h3, h4, rfl⟩)⟩
/-- the shape of the text that was given -/
theorem KE.shp {c : Nat → Nat} {N q k st e n : Nat} {ex nx : Int} {d : Nat → Nat} (hI : In9 c N q k ex) (h : KE c q k st e n nx d) : ∃ a : Nat, ShpC c q k a n d ∧ nx = (k : Int) - a := by
  rcases h with ⟨m, h1, h2, h3, h4, h5⟩ | ⟨h1, h2, h3, h4, h5⟩ | ⟨h1, h2, h3, h4, h5⟩
  · rw [h5, h3]
    exact ⟨m - 1, h2.shp hI, by have := h2.hm; omega⟩
  · rw [h5]
    exact ⟨0, h2.shp hI, by omega⟩
  · rw [h5, h3]
    exact ⟨0, h2.shp hI, by omega⟩

theorem dl_le {x L : Nat} (h1 : 1 ≤ L) (h4 : L ≤ 4) (h : x < 10 ^ L) : dl x ≤ L := by
  have hL : L = 1 ∨ L = 2 ∨ L = 3 ∨ L = 4 := by omega
  have := dl_cases x (by rcases hL with rfl | rfl | rfl | rfl <;> omega)
  rcases hL with rfl | rfl | rfl | rfl <;> omega
theorem dl_lt {x : Nat} (h : x < 100000) : x < 10 ^ dl x ∧ 1 ≤ dl x ∧ dl x ≤ 5 := by
  rcases dl_cases x h with ⟨e, h⟩ | ⟨e, _, h⟩ | ⟨e, _, h⟩ | ⟨e, _, h⟩ | ⟨e, _, h⟩ <;> rw [e] <;> omega
/-- the room that the exponent takes -/
theorem In9.room {c : Nat → Nat} {N q k : Nat} {ex : Int} (h : In9 c N q k ex) :
    ex = 0 ∨ (0 < ex ∧ ex ≤ 9999 ∧ q + 1 + dl ex.natAbs ≤ N) ∨ (ex < 0 ∧ -9999 ≤ ex ∧ q + 2 + dl ex.natAbs ≤ N) := by
  rcases h.exp with ⟨_, h⟩ | ⟨h1, h2, r, h3, h4, h5, h6⟩
  · exact .inl h
  · have hlt := cest_lt c r (N - r) fun j hj => (h4 _ (by omega) (by omega)).2
    have hp : 10 ^ (N - r) ≤ 10 ^ 4 := Nat.pow_le_pow_right (by omega) (by omega)
    by_cases h0 : ex = 0
    · exact .inl h0
    right
    have hdl : ex.natAbs = cest c r (N - r) := by rcases h6 with ⟨_, h⟩ | ⟨_, _, h⟩ | ⟨_, _, h⟩ <;> omega
    have := dl_le (x := ex.natAbs) (L := N - r) (by omega) (by omega) (by rw [hdl]; exact hlt)
    rcases h6 with ⟨_, h⟩ | ⟨_, _, h⟩ | ⟨_, _, h⟩
    · left; omega
    · left; omega
    · right; omega

theorem Wr.shift {c : Nat → Nat} {S o L x : Nat} (h : Wr c (S + o) L x) : Wr (fun j => c (S + j)) o L x := by
  intro j hj
  show c (S + (o + L - 1 - j)) = _
  rw [show S + (o + L - 1 - j) = S + o + L - 1 - j by omega]
  exact h j hj
/-- what is known of digits -/
def Dg (d : Nat → Nat) (n : Nat) : Prop := 1 ≤ n ∧ d 0 ≠ 48 ∧ ∀ j, j < n → 48 ≤ d j ∧ d j ≤ 57
theorem ShpC.dg {c : Nat → Nat} {q k a n : Nat} {d : Nat → Nat} (h : ShpC c q k a n d) : Dg d n := ⟨h.n1, h.d0, h.dig⟩

/-- digits, no point, zeros behind -/
theorem shp_int {b : Nat → Nat} {n z : Nat} {d : Nat → Nat} (hD : Dg d n) (h1 : ∀ j, j < n → b j = d j) (h2 : ∀ j, j < z → b (n + j) = 48) : ShpC b (n + z) (n + z) 0 n d := by
  have hd : dnum (n + z) (n + z) = n + z := by unfold dnum; rw [if_neg (by omega)]
  have hp : ∀ j, j < n + z → dpos (n + z) j = j := fun j hj => by unfold dpos; rw [if_pos hj]
  refine ⟨Nat.le_refl _, fun h => absurd h (by omega), hD.1, by omega, hD.2.2, hD.2.1, fun j hj => absurd hj (by omega), fun j hj => ?_, fun j hj1 hj2 => ?_⟩
  · rw [Nat.zero_add, hp j (by omega)]; exact h1 j hj
  · rw [hp j (by omega)]
    have := h2 (j - n) (by omega)
    rwa [show n + (j - n) = j by omega] at this
/-- a point, zeros, digits -/
theorem shp_pt {b : Nat → Nat} {n z : Nat} {d : Nat → Nat} (hD : Dg d n) (h0 : b 0 = 46) (h1 : ∀ j, j < z → b (1 + j) = 48) (h2 : ∀ j, j < n → b (1 + z + j) = d j) : ShpC b (1 + z + n) 0 z n d := by
  have hd : dnum (1 + z + n) 0 = z + n := by unfold dnum; rw [if_pos (by omega)]; omega
  have hp : ∀ j, dpos 0 j = 1 + j := fun j => by unfold dpos; rw [if_neg (by omega)]; omega
  refine ⟨by omega, fun _ => h0, hD.1, by omega, hD.2.2, hD.2.1, fun j hj => ?_, fun j hj => ?_, fun j hj1 hj2 => absurd hj1 (by omega)⟩
  · rw [hp]; exact h1 j hj
  · rw [hp, show 1 + (z + j) = 1 + z + j by omega]; exact h2 j hj
/-- digits, a point among them -/
theorem shp_mid {b : Nat → Nat} {n k : Nat} {d : Nat → Nat} (hD : Dg d n) (hk : k < n) (h0 : b k = 46) (h1 : ∀ j, j < k → b j = d j) (h2 : ∀ j, k ≤ j → j < n → b (j + 1) = d j) : ShpC b (n + 1) k 0 n d := by
  have hd : dnum (n + 1) k = n := by unfold dnum; rw [if_pos (by omega)]; omega
  refine ⟨by omega, fun _ => h0, hD.1, by omega, hD.2.2, hD.2.1, fun j hj => absurd hj (by omega), fun j hj => ?_, fun j hj1 hj2 => absurd hj1 (by omega)⟩
  rw [Nat.zero_add]
  unfold dpos
  by_cases h : j < k
  · rw [if_pos h]; exact h1 j h
  · rw [if_neg h]; exact h2 j (by omega) hj

theorem res_c1 {c1 c' d : Nat → Nat} {n S x e' : Nat} {E : Int} (hD : Dg d n) (hd : ∀ j, j < n → c1 (S + j) = d j) (hT : Tl1 c' c1 (S + n) n e' x E) (hE : E = n + x) (hx : x < 100000) :
    S < e' ∧ Res (fun j => c' (S + j)) (e' - S) n d E := by
  obtain ⟨h1, h2⟩ := hT
  have hn := hD.1
  have hdl := dl_lt hx
  have hb : ∀ j, j < n → c' (S + j) = d j := fun j hj => by rw [h1 _ (by omega)]; exact hd j hj
  rcases h2 with ⟨h3, h4, h5, h6⟩ | ⟨h3, h4, h5⟩
  · refine ⟨by omega, n, n, 0, x, by omega, ?_, fun _ => ?_, .inr ⟨h5, n + 1, x, dl x, by omega, hdl.2.1, hdl.2.2, hdl.1, Wr.shift h6, .inl ⟨rfl, rfl⟩⟩, by omega⟩
    · have := shp_int (b := fun j => c' (S + j)) (z := 0) hD hb fun j hj => absurd hj (by omega)
      simpa using this
    · show c' (S + 0) ≠ 48
      rw [hb 0 (by omega)]; exact hD.2.1
  · refine ⟨by omega, n + x, n + x, 0, 0, by omega, shp_int hD hb fun j hj => h5 _ (by omega) (by omega), fun _ => ?_, .inl ⟨by omega, rfl⟩, by omega⟩
    show c' (S + 0) ≠ 48
    rw [hb 0 (by omega)]; exact hD.2.1
/-- an exponent that is negative, written behind q -/
def TlN (c c1 : Nat → Nat) (e e' x : Nat) : Prop := (∀ j, j < e → c j = c1 j) ∧ e' = e + 2 + dl x ∧ c e = 101 ∧ c (e + 1) = 45 ∧ Wr c (e + 2) (dl x) x
theorem res_neg {c' c1 d : Nat → Nat} {n S q k a x e' : Nat} {E : Int} (hS : ShpC (fun j => c1 (S + j)) q k a n d) (hk : 1 < k → c1 S ≠ 48) (hT : TlN c' c1 (S + q) e' x) (hE : E = (k : Int) - a - x) (hx : x < 100000) :
    S < e' ∧ Res (fun j => c' (S + j)) (e' - S) n d E := by
  obtain ⟨h1, h2, h3, h4, h5⟩ := hT
  have hdl := dl_lt hx
  have hq := hS.kq
  have hf := hS.fit
  have hn := hS.n1
  have hqn : 1 ≤ q := by unfold dnum at hf; split at hf <;> omega
  refine ⟨by omega, q, k, a, -(x : Int), by omega, ?_, fun h => ?_, .inr ⟨h3, q + 2, x, dl x, by omega, hdl.2.1, hdl.2.2, hdl.1, Wr.shift h5, .inr ⟨rfl, h4, rfl⟩⟩, by omega⟩
  · have key : ∀ j, j < q → c' (S + j) = c1 (S + j) := fun j hj => h1 _ (by omega)
    exact ⟨hS.kq, fun h => (key k h).trans (hS.dot h), hS.n1, hS.fit, hS.dig, hS.d0, fun j hj => (key _ (dpos_lt hq (by omega))).trans (hS.lead j hj), fun j hj => (key _ (dpos_lt hq (by omega))).trans (hS.mid j hj), fun j hj1 hj2 => (key _ (dpos_lt hq hj2)).trans (hS.tail j hj1 hj2)⟩
  · show c' (S + 0) ≠ 48
    rw [h1 _ (by omega)]; exact hk h
open Dc

/-- a hexadecimal, octal or binary beginning -/
def hexS (s : ByteArray) (p : Nat) : Prop := bt s p = 48 ∧ p + 1 < s.size ∧ (bt s (p + 1) ||| 32 = 120 ∨ bt s (p + 1) ||| 32 = 111 ∨ bt s (p + 1) ||| 32 = 98)
/-- a number's text, as the lexer has it -/
def Lit (s : ByteArray) : Prop := Stt s 0 ∧ scanN s 0 = some s.size ∧ ¬ hexS s 0
/-- what it is worth -/
def numL (s : ByteArray) : Nat := numG s (nB s 0)

theorem est_cest (s : ByteArray) (r : Nat) : ∀ n, n ≤ 5 → (∀ j, j < n → bt s (r + j) ≤ 57) → est s r n = cest (bt s) r n
  | 0, _, _ => rfl
  | n + 1, h, hd => by
    have ih := est_cest s r n (by omega) fun j hj => hd j (by omega)
    have hlt := cest_lt (bt s) r n fun j hj => hd j (by omega)
    have hp : 10 ^ n ≤ 10 ^ 4 := Nat.pow_le_pow_right (by omega) (by omega)
    unfold est cest
    rw [ih, if_pos (by omega)]
/-- digits that were written read back -/
theorem wr_cest {b : Nat → Nat} {o L x : Nat} (hW : Wr b o L x) (hx : x < 10 ^ L) : ∀ n, n ≤ L → cest b o n = x / 10 ^ (L - n)
  | 0, _ => by
    unfold cest
    rw [Nat.sub_zero]
    exact (Nat.div_eq_of_lt hx).symm
  | n + 1, h => by
    have ih := wr_cest hW hx n (by omega)
    have hd := hW (L - 1 - n) (by omega)
    unfold cest
    rw [ih, show o + n = o + L - 1 - (L - 1 - n) by omega, hd, show L - n = (L - (n + 1)) + 1 by omega, show L - 1 - n = L - (n + 1) by omega, Nat.pow_succ, ← Nat.div_div_eq_div_mul]
    omega
theorem wr_dig {b : Nat → Nat} {o L x : Nat} (hW : Wr b o L x) (i : Nat) (h1 : o ≤ i) (h2 : i < o + L) : 48 ≤ b i ∧ b i ≤ 57 := by
  have := hW (o + L - 1 - i) (by omega)
  rw [show o + L - 1 - (o + L - 1 - i) = i by omega] at this
  omega

/-- the lexer on a text of this shape -/
theorem scan_shape {t : ByteArray} {q k : Nat} (hk : k ≤ q) (hq : q ≤ t.size) (hdot : k < q → bt t k = 46) (hdig : ∀ i, i < q → i ≠ k → 48 ≤ bt t i ∧ bt t i ≤ 57)
    (hend : q < t.size → bt t q = 69 ∨ bt t q = 101) : nB t 0 = q ∧ (nA t 0 = k) := by
  have hA : nA t 0 = k := by
    refine nA_eq (Nat.zero_le _) (by omega) (fun i _ h => hdig i (by omega) (by omega)) fun h => ?_
    by_cases e : k < q
    · rw [hdot e]; omega
    · have : k = q := by omega
      rw [this] at h ⊢
      rcases hend h with h | h <;> omega
  refine ⟨?_, hA⟩
  unfold nB
  rw [hA]
  by_cases e : k < q
  · rw [if_pos ⟨by omega, hdot e⟩]
    refine nA_eq (by omega) hq (fun i h1 h2 => hdig i h2 (by omega)) fun h => ?_
    rcases hend h with h | h <;> omega
  · have : k = q := by omega
    subst this
    rw [if_neg]
    rintro ⟨h1, h2⟩
    rcases hend h1 with h | h <;> omega

theorem lit_of {t : ByteArray} {q k : Nat} (hk : k ≤ q) (hq : q ≤ t.size) (hdot : k < q → bt t k = 46) (hdig : ∀ i, i < q → i ≠ k → 48 ≤ bt t i ∧ bt t i ≤ 57)
    (hs : 0 < k ∨ 1 < q) (hnz : 1 < k → bt t 0 ≠ 48)
    (hend : q = t.size ∨ (q < t.size ∧ bt t q = 101 ∧ ∃ o, o < t.size ∧ t.size ≤ o + 5 ∧ (∀ i, o ≤ i → i < t.size → 48 ≤ bt t i ∧ bt t i ≤ 57) ∧ (o = q + 1 ∨ (o = q + 2 ∧ bt t (q + 1) = 45)))) : Lit t ∧ nB t 0 = q := by
  obtain ⟨hB, hA⟩ := scan_shape hk hq hdot hdig fun h => by
    rcases hend with e | ⟨_, e, _⟩
    · omega
    · exact .inr e
  have hS : Stt t 0 := by
    by_cases e : k = 0
    · right
      subst e
      exact ⟨hdot (by omega), hdig 1 (by omega) (by omega)⟩
    · exact .inl (hdig 0 (by omega) (by omega))
  have hX : nX t q = some t.size := by
    unfold nX
    rcases hend with e | ⟨h1, h2, o, h3, h4, h5, h6⟩
    · rw [if_neg (by omega), e]
    · rw [if_pos ⟨h1, by rw [h2]; rfl⟩]
      have hC : nC t q = o := by
        unfold nC
        rcases h6 with h | ⟨h, h45⟩
        · have := h5 o (Nat.le_refl _) h3
          rw [h] at this
          rw [if_neg (by omega), h]
        · rw [if_pos ⟨by omega, .inr h45⟩, h]
      rw [hC]
      have hN : nA t o = t.size := nA_eq (by omega) (Nat.le_refl _) h5 fun h => absurd h (by omega)
      rw [hN, if_neg (by omega)]
  refine ⟨⟨hS, ?_, ?_⟩, hB⟩
  · unfold scanN
    rw [hA, hB, hX, if_neg]
    · show (if t.size < t.size ∧ _ then none else some t.size) = _
      rw [if_neg (by omega)]
    · rintro ⟨h1, h2⟩
      exact hnz (by omega) h2
  · rintro ⟨h1, h2, h3⟩
    have hb : bt t 1 = 46 ∨ (48 ≤ bt t 1 ∧ bt t 1 ≤ 57) ∨ bt t 1 = 101 := by
      by_cases e : 1 < q
      · by_cases e2 : 1 = k
        · exact .inl (e2 ▸ hdot (by omega))
        · exact .inr (.inl (hdig 1 e e2))
      · rcases hend with h | ⟨h, h', _⟩
        · omega
        · have : q = 1 := by omega
          rw [this] at h'
          exact .inr (.inr h')
    have key : ∀ c : Fin 256, (c.val = 46 ∨ (48 ≤ c.val ∧ c.val ≤ 57) ∨ c.val = 101) → ¬ (c.val ||| 32 = 120 ∨ c.val ||| 32 = 111 ∨ c.val ||| 32 = 98) := by decide +kernel
    exact key ⟨bt t 1, bt_lt t 1⟩ hb h3

theorem exG_out {t : ByteArray} {q : Nat} {ex : Int} (h : ExB (bt t) q t.size ex) : exG t q = ex := by
  unfold exG
  rcases h with ⟨h1, h2⟩ | ⟨h1, o, x, L, h2, h3, h4, h5, h6, h7⟩
  · rw [if_neg (by omega), h2]
  · have hest : est t o L = x := by
      rw [est_cest t o L h4 fun j hj => (wr_dig h6 _ (by omega) (by omega)).2, wr_cest h6 h5 L (Nat.le_refl _), Nat.sub_self, Nat.pow_zero, Nat.div_one]
    rcases h7 with ⟨ho, hx⟩ | ⟨ho, h45, hx⟩
    · have hd := wr_dig h6 o (Nat.le_refl _) (by omega)
      rw [ho] at hd
      rw [if_pos (by omega), if_neg (by omega), if_neg (by omega), show t.size - (q + 1) = L by omega, ← ho, hest, hx]
      omega
    · rw [if_pos (by omega), if_pos h45, show t.size - (q + 2) = L by omega, ← ho, hest, hx]
      omega

/-- the text that was given: its bytes -/
theorem ext_of_bt {s t : ByteArray} (h1 : s.size = t.size) (h2 : ∀ j, j < s.size → bt s j = bt t j) : s = t := by
  apply ByteArray.ext
  apply Array.ext
  · exact h1
  · intro i h3 h4
    have h5 : i < s.size := h3
    have h6 : i < t.size := h4
    have := h2 i h5
    rw [bt_eq h5, bt_eq h6] at this
    exact UInt8.toNat_inj.1 this
theorem shpC_dig {b : Nat → Nat} {q k a n : Nat} {d : Nat → Nat} (h : ShpC b q k a n d) : ∀ i, i < q → i ≠ k → 48 ≤ b i ∧ b i ≤ 57 := by
  intro i hi hne
  have hkq := h.kq
  obtain ⟨j, hj, hp⟩ : ∃ j, j < dnum q k ∧ dpos k j = i := by
    refine ⟨if i < k then i else i - 1, ?_, ?_⟩
    · unfold dnum; split <;> split <;> omega
    · unfold dpos
      by_cases e : i < k
      · rw [if_pos e, if_pos e]
      · rw [if_neg e, if_neg (by omega)]; omega
  rw [← hp]
  by_cases h1 : j < a
  · rw [h.lead j h1]; omega
  · by_cases h2 : j < a + n
    · have := h.mid (j - a) (by omega)
      rw [show a + (j - a) = j by omega] at this
      rw [this]; exact h.dig _ (by omega)
    · rw [h.tail j (by omega) hj]; omega

/-- **the law**: what is written is a number's text and worth the same -/
theorem out_law {s t : ByteArray} {q k : Nat} {ex : Int} (hI : In9 (bt s) s.size q k ex) (hL : Lit s) (hq : nB s 0 = q) (hex : exG s q = ex) (ht : t.size ≤ s.size) (hO : OutOk (bt s) s.size q k ex (bt t) t.size) : Lit t ∧ numL t = numL s := by
  have hn100 := hI.n100
  have hqN := hI.qN
  have hkq := hI.kq
  rcases hO with ⟨h1, h2⟩ | ⟨h1, h2, h3⟩ | ⟨a, n, d, hS, hR⟩
  · have : t = s := ext_of_bt h1 fun j hj => h2 j (by omega)
    rw [this]
    exact ⟨hL, rfl⟩
  · have hl := lit_of (t := t) (q := 1) (k := 1) (Nat.le_refl _) (by omega) (fun h => absurd h (by omega)) (fun i h4 _ => by rw [show i = 0 by omega, h2]; omega) (.inl (by omega)) (fun h => absurd h (by omega)) (.inl (by omega))
    refine ⟨hl.1, ?_⟩
    have hz : Zer t 1 1 := ⟨Nat.le_refl _, fun h => absurd h (by omega), by unfold dnum; rw [if_neg (by omega)]; omega, fun j hj => by
      unfold dnum at hj
      rw [if_neg (by omega)] at hj
      unfold dpos
      rw [if_pos hj, show j = 0 by omega]; exact h2⟩
    have hzs : Zer s q k := ⟨hkq, hI.dot, by have := hI.some; unfold dnum; split <;> omega, fun j hj => by
      have := dpos_lt hkq hj
      exact h3 _ this (by unfold dpos; split <;> omega)⟩
    unfold numL numG
    rw [hl.2, hq, hz.worth, hzs.worth, gF_zero, gF_zero]
  · obtain ⟨q', k', a', ex', hq', hS', hnz, hE, hv⟩ := hR
    have hkq' := hS'.kq
    have hf' := hS'.fit
    have hn1 := hS'.n1
    have hexx := exG_out hE
    have hl := lit_of (t := t) hkq' hq' hS'.dot (shpC_dig hS') (by unfold dnum at hf'; split at hf' <;> omega) hnz (by
      rcases hE with ⟨h, _⟩ | ⟨h1, o, x, L, h2, h3, h4, h5, h6, h7⟩
      · exact .inl h
      · right
        have hw := wr_dig h6
        refine ⟨by omega, h1, o, by omega, by omega, fun i hi1 hi2 => hw i hi1 (by omega), ?_⟩
        rcases h7 with ⟨h, _⟩ | ⟨h, h45, _⟩
        · exact .inl h
        · exact .inr ⟨h, h45⟩)
    refine ⟨hl.1, ?_⟩
    have w1 := (hS.shp (t := s) fun i hi => rfl).worth (by omega) ex
    unfold numL numG
    have w2 := (hS'.shp (t := t) fun i hi => rfl).worth (by omega) ex'
    rw [hl.2, hq, hex, hexx, w1.1, w1.2, w2.1, w2.2, hv]

/-- the digits behind the last e, as Decimal counts them -/
def dct (s : ByteArray) : Nat → Int
  | 0 => -1
  | i + 1 => if bt s i ||| 32 = 101 then 0 else if 0 ≤ dct s i ∧ dgP (bt s i) = true then dct s i + 1 else dct s i
theorem dct_run (s : ByteArray) (r : Nat) (h0 : dct s r = 0) : ∀ n, (∀ i, r ≤ i → i < r + n → 48 ≤ bt s i ∧ bt s i ≤ 57) → dct s (r + n) = n
  | 0, _ => h0
  | n + 1, h => by
    have ih := dct_run s r h0 n fun i h1 h2 => h i h1 (by omega)
    have hd := h (r + n) (by omega) (by omega)
    show (if bt s (r + n) ||| 32 = 101 then 0 else if 0 ≤ dct s (r + n) ∧ dgP (bt s (r + n)) = true then dct s (r + n) + 1 else dct s (r + n)) = _
    rw [if_neg, ih, if_pos ⟨by omega, (dgP_iff _).2 hd⟩]
    · omega
    · intro e
      have := (or32_101 _ (bt_lt _ _)).1 e
      omega

theorem in9_of {s : ByteArray} (hs : s.size ≤ 100) (h1 : 1 < s.size) (hL : Lit s) (hx : dct s s.size ≤ 4) : ∃ k, In9 (bt s) s.size (nB s 0) k (exG s (nB s 0)) := by
  obtain ⟨hS, hsc, _⟩ := hL
  unfold scanN at hsc
  by_cases hz : 0 + 1 < nA s 0 ∧ bt s 0 = 48
  · rw [if_pos hz] at hsc; exact absurd hsc (by simp)
  rw [if_neg hz] at hsc
  have hX : nX s (nB s 0) = some s.size := by
    cases h : nX s (nB s 0) with
    | none => rw [h] at hsc; exact absurd hsc (by simp)
    | some d =>
      rw [h] at hsc
      simp only at hsc
      split at hsc
      · exact absurd hsc (by simp)
      · rw [Option.some.injEq] at hsc; rw [hsc]
  have hp := hS.lt
  obtain ⟨a1, a2⟩ := nA_b (s := s) (p := 0) (by omega)
  have hB : ∃ k, k = nA s 0 ∧ k ≤ nB s 0 ∧ nB s 0 ≤ s.size ∧ (k < nB s 0 → bt s k = 46) ∧ (∀ i, i < nB s 0 → i ≠ k → 48 ≤ bt s i ∧ bt s i ≤ 57) ∧ (0 < k ∨ 1 < nB s 0) := by
    refine ⟨_, rfl, ?_⟩
    unfold nB
    by_cases hd : nA s 0 < s.size ∧ bt s (nA s 0) = 46
    · rw [if_pos hd]
      obtain ⟨b1, b2⟩ := nA_b (s := s) (p := nA s 0 + 1) (by omega)
      refine ⟨by omega, b2, fun _ => hd.2, fun i h2 h3 => ?_, ?_⟩
      · by_cases e : i < nA s 0
        · exact nA_dig (Nat.zero_le _) e
        · exact nA_dig (p := nA s 0 + 1) (by omega) h2
      · by_cases e : 0 < nA s 0
        · exact .inl e
        · right
          have e0 : nA s 0 = 0 := by omega
          rw [e0]
          refine Nat.lt_of_not_le fun hn => ?_
          rw [e0] at b1 hd
          have e2 : nA s (0 + 1) = 1 := by omega
          have hend := nA_end (s := s) (p := 0 + 1) (by omega)
          rw [e2] at hend
          rcases hS with h | h
          · omega
          · exact hend h.2
    · rw [if_neg hd]
      refine ⟨Nat.le_refl _, a2, fun h => absurd h (by omega), fun i h2 h3 => nA_dig (Nat.zero_le _) h2, ?_⟩
      refine .inl (Nat.pos_of_ne_zero fun e => ?_)
      have hend := nA_end (s := s) (p := 0) (by omega)
      rw [e] at hend hd
      rcases hS with h | h
      · exact hend h
      · exact hd ⟨hp, h.1⟩
  obtain ⟨k, hk, k1, k2, k3, k4, k5⟩ := hB
  generalize nB s 0 = q at hX k1 k2 k3 k4 k5 ⊢
  refine ⟨k, h1, hs, k1, k2, k3, k4, k5, fun h2 h48 => hz ⟨by omega, h48⟩, ?_⟩
  unfold nX at hX
  by_cases he : q < s.size ∧ bt s q ||| 32 = 101
  · rw [if_pos he] at hX
    by_cases hn : nA s (nC s q) = nC s q ∨ nC s q + 6 < nA s (nC s q)
    · rw [if_pos hn] at hX; exact absurd hX (by simp)
    rw [if_neg hn, Option.some.injEq] at hX
    right
    have hcq := (or32_101 _ (bt_lt _ _)).1 he.2
    have hc : nC s q ≤ s.size ∧ q < nC s q := by unfold nC; split <;> omega
    have hcl : nC s q < s.size := by
      have := nA_b (s := s) (p := nC s q) hc.1
      omega
    have hdg : ∀ i, nC s q ≤ i → i < s.size → 48 ≤ bt s i ∧ bt s i ≤ 57 := fun i h2 h3 => nA_dig (p := nC s q) h2 (by omega)
    have hq1 : dct s (q + 1) = 0 := by
      show (if bt s q ||| 32 = 101 then 0 else _) = _
      rw [if_pos he.2]
    have hr0 : dct s (nC s q) = 0 := by
      unfold nC
      by_cases hsg : q + 1 < s.size ∧ (bt s (q + 1) = 43 ∨ bt s (q + 1) = 45)
      · rw [if_pos hsg]
        show (if bt s (q + 1) ||| 32 = 101 then 0 else if 0 ≤ dct s (q + 1) ∧ dgP (bt s (q + 1)) = true then dct s (q + 1) + 1 else dct s (q + 1)) = _
        rw [if_neg (by intro e; have := (or32_101 _ (bt_lt _ _)).1 e; omega), if_neg (by rintro ⟨_, h⟩; have := (dgP_iff _).1 h; omega)]
        exact hq1
      · rw [if_neg hsg]; exact hq1
    have hrun := dct_run s (nC s q) hr0 (s.size - nC s q) fun i h2 h3 => hdg i h2 (by omega)
    rw [show nC s q + (s.size - nC s q) = s.size by omega] at hrun
    refine ⟨he.1, hcq, nC s q, hcl, hdg, by omega, ?_⟩
    have hest : ∀ r, r = nC s q → est s r (s.size - r) = cest (bt s) r (s.size - r) := fun r hr => est_cest s r _ (by omega) fun j hj => (hdg _ (by omega) (by omega)).2
    unfold exG
    rw [if_pos he.1]
    by_cases hsg : q + 1 < s.size ∧ (bt s (q + 1) = 43 ∨ bt s (q + 1) = 45)
    · have hC : nC s q = q + 2 := by unfold nC; rw [if_pos hsg]
      rw [hC] at hest ⊢
      have h2 := hest (q + 2) rfl
      rcases hsg.2 with h | h
      · rw [if_neg (by omega), if_pos h, h2]
        exact .inr (.inl ⟨rfl, h, by omega⟩)
      · rw [if_pos h, h2]
        exact .inr (.inr ⟨rfl, h, by omega⟩)
    · have hC : nC s q = q + 1 := by unfold nC; rw [if_neg hsg]
      rw [hC] at hest hdg ⊢
      have h2 := hest (q + 1) rfl
      have hd := hdg (q + 1) (Nat.le_refl _) (by omega)
      rw [if_neg (by omega), if_neg (by omega), h2]
      exact .inl ⟨rfl, by omega⟩
  · rw [if_neg he, Option.some.injEq] at hX
    left
    refine ⟨hX, ?_⟩
    unfold exG
    rw [if_neg (by omega)]
set_option maxRecDepth 100000

def F5a (s : ByteArray) (dg : Int) (i : Nat) : (Nat → Value) → Act := FG 64 [(0, .string s), (3, .int .i64 dg), (8, .int .i64 s.size), (9, .int .i64 i)]
theorem F5a_lit (s : ByteArray) (dg : Int) (i : Nat) (u : Nat → Value) : F5a s  dg  i u = { tmps := #[.string s, u 1, u 2, .int .i64 dg, u 4, u 5, u 6, u 7, .int .i64 s.size, .int .i64 i, u 10, u 11, u 12, u 13, u 14, u 15, u 16, u 17, u 18, u 19, u 20, u 21, u 22, u 23, u 24, u 25, u 26, u 27, u 28, u 29, u 30, u 31, u 32, u 33, u 34, u 35, u 36, u 37, u 38, u 39, u 40, u 41, u 42, u 43, u 44, u 45, u 46, u 47, u 48, u 49, u 50, u 51, u 52, u 53, u 54, u 55, u 56, u 57, u 58, u 59, u 60, u 61, u 62, u 63], defers := [] } := by kernel_rfl
theorem F5a_at (s : ByteArray) (dg : Int) (i : Nat) {L : List Value} (hl : L.length = 64) (hn : NmOk L [(0, .string s), (3, .int .i64 dg), (8, .int .i64 s.size), (9, .int .i64 i)]) : (F5a s  dg  i fun k => (Act.mk L.toArray []).tmps.getD k undef) = { tmps := L.toArray, defers := [] } := FG_at hl hn
def F5b (s : ByteArray) (i : Nat) : (Nat → Value) → Act := FG 64 [(0, .string s), (31, .int .i64 s.size), (32, .int .i64 i)]
theorem F5b_lit (s : ByteArray) (i : Nat) (u : Nat → Value) : F5b s  i u = { tmps := #[.string s, u 1, u 2, u 3, u 4, u 5, u 6, u 7, u 8, u 9, u 10, u 11, u 12, u 13, u 14, u 15, u 16, u 17, u 18, u 19, u 20, u 21, u 22, u 23, u 24, u 25, u 26, u 27, u 28, u 29, u 30, .int .i64 s.size, .int .i64 i, u 33, u 34, u 35, u 36, u 37, u 38, u 39, u 40, u 41, u 42, u 43, u 44, u 45, u 46, u 47, u 48, u 49, u 50, u 51, u 52, u 53, u 54, u 55, u 56, u 57, u 58, u 59, u 60, u 61, u 62, u 63], defers := [] } := by kernel_rfl
theorem F5b_at (s : ByteArray) (i : Nat) {L : List Value} (hl : L.length = 64) (hn : NmOk L [(0, .string s), (31, .int .i64 s.size), (32, .int .i64 i)]) : (F5b s  i fun k => (Act.mk L.toArray []).tmps.getD k undef) = { tmps := L.toArray, defers := [] } := FG_at hl hn

/-- a byte of a decimal's text -/
def dcP (c : Nat) : Prop := (48 ≤ c ∧ c ≤ 57) ∨ c = 46 ∨ c = 101 ∨ c = 69 ∨ c = 43 ∨ c = 45
def DecPost (s : ByteArray) (w : World) (e : Ending) (w' : World) : Prop := ∃ b : Bool, e = .returned (.bool b) ∧ w' = w ∧ (b = true → dct s s.size ≤ 4 ∧ ∀ i, i < s.size → dcP (bt s i))
theorem dct_b (s : ByteArray) : ∀ i, -1 ≤ dct s i ∧ dct s i ≤ i
  | 0 => by unfold dct; omega
  | i + 1 => by
    have := dct_b s i
    unfold dct
    split
    · omega
    · split <;> omega
set_option maxHeartbeats 4000000 in
theorem decimal_any (s : ByteArray) (w : World) (hs : s.size ≤ 100) : Calls Tryd.prog 5 #[.string s] w (DecPost s w) := by
  go_enter Tryd.func5, Tryd.ntmps5
  go_wp2
  rename_i KK hKK
  have HR : ∀ (a' : Act) (w1 : World), w1 = w → (F5a s (dct s s.size) s.size fun k => a'.tmps.getD k undef) = a' → KK a' w1 := by
    rintro a' w1 rfl he
    rw [← he]
    apply hKK
    clear hKK he
    generalize (fun k => a'.tmps.getD k undef) = u
    rw [F5a_lit]
    have hb := dct_b s s.size
    obtain ⟨dn, hdn⟩ : ∃ x, dct s s.size = x := ⟨_, rfl⟩
    rw [hdn] at hb ⊢
    have HDG := Lib.hid hdn
    clear hdn
    by_cases h4 : 4 < dn
    · have g1 : decide (dn > 4) = true := decide_eq_true (by omega)
      go_wp2
      go_ret
      exact ⟨false, rfl, rfl, fun h => absurd h (by simp)⟩
    · have g1 : decide (dn > 4) = false := decide_eq_false (by omega)
      have H4 : Hid (dct s s.size ≤ 4) := Lib.hid (by rw [HDG.out]; omega)
      go_wp2
      refine wp_loop_x (fun i : Nat => F5b s i) (fun n i w' => n = s.size - i ∧ i ≤ s.size ∧ (∀ j, j < i → dcP (bt s j)) ∧ w' = w1) s.size 0 ⟨rfl, by omega, fun j hj => absurd hj (by omega), rfl⟩ (F5b_at _ _ rfl ⟨rfl, rfl, rfl, trivial⟩) ?_
      rintro n i u w2 ⟨hn, hi, hp, rfl⟩ K hK
      have HN := Lib.hid hn
      have HK := Lib.hid hK
      have HP := Lib.hid hp
      clear hn hK hp g1 h4 hb
      rw [F5b_lit]
      by_cases hlt : i < s.size
      · have l1 : decide ((i : Int) < s.size) = true := decide_eq_true (by omega)
        have l2 : (i : Int) < s.size := by omega
        obtain ⟨c, hc⟩ : ∃ c : Nat, s[i].toNat = c := ⟨_, rfl⟩
        have hcb : bt s i = c := by rw [bt_eq hlt, hc]
        have HCB := Lib.hid hcb
        have hD := isDigit_any (c : Int) w2
        obtain ⟨b, hb⟩ : ∃ b, dg (c : Int) = b := ⟨_, rfl⟩
        rw [hb] at hD
        have HD := Lib.hid hD
        have HBB := Lib.hid hb
        clear hD hb hcb
        cases b
        · by_cases hcp : c = 46 ∨ c = 101 ∨ c = 69 ∨ c = 43 ∨ c = 45
          · have HDP : Hid (dcP c) := Lib.hid (.inr hcp)
            have hx : ((c : Int) != 46) = false ∨ (((c : Int) != 46) = true ∧ ((c : Int) != 101) = false) ∨ (((c : Int) != 46) = true ∧ ((c : Int) != 101) = true ∧ ((c : Int) != 69) = false) ∨ (((c : Int) != 46) = true ∧ ((c : Int) != 101) = true ∧ ((c : Int) != 69) = true ∧ ((c : Int) != 43) = false) ∨ (((c : Int) != 46) = true ∧ ((c : Int) != 101) = true ∧ ((c : Int) != 69) = true ∧ ((c : Int) != 43) = true ∧ ((c : Int) != 45) = false) := by
              rcases hcp with rfl | rfl | rfl | rfl | rfl <;> decide
            clear hcp
            rcases hx with h1 | ⟨h1, h2⟩ | ⟨h1, h2, h3⟩ | ⟨h1, h2, h3, h4⟩ | ⟨h1, h2, h3, h4, h5⟩
            all_goals
              go_wp2_with fail
              refine HD.out.mono ?_
              rintro e w' ⟨rfl, rfl⟩
              go_wp2
              exact HK.out (s.size - (i + 1)) (i + 1) _ _ (by have := HN.out; omega) ⟨rfl, by omega, fun j hj => by
                by_cases e : j = i
                · rw [e, HCB.out]; exact HDP.out
                · exact HP.out j (by omega), rfl⟩ (F5b_at _ _ rfl ⟨rfl, rfl, vi (by omega), trivial⟩)
          · have h1 : ((c : Int) != 46) = true := by simp; omega
            have h2 : ((c : Int) != 101) = true := by simp; omega
            have h3 : ((c : Int) != 69) = true := by simp; omega
            have h4 : ((c : Int) != 43) = true := by simp; omega
            have h5 : ((c : Int) != 45) = true := by simp; omega
            clear hcp
            go_wp2_with fail
            refine HD.out.mono ?_
            rintro e w' ⟨rfl, rfl⟩
            go_wp2
            go_ret
            exact ⟨false, rfl, rfl, fun h => absurd h (by simp)⟩
        · have HDP : Hid (dcP c) := Lib.hid (.inl (by have := HBB.out; unfold dg at this; have := of_decide_eq_true this; omega))
          go_wp2_with fail
          refine HD.out.mono ?_
          rintro e w' ⟨rfl, rfl⟩
          go_wp2
          exact HK.out (s.size - (i + 1)) (i + 1) _ _ (by have := HN.out; omega) ⟨rfl, by omega, fun j hj => by
            by_cases e : j = i
            · rw [e, HCB.out]; exact HDP.out
            · exact HP.out j (by omega), rfl⟩ (F5b_at _ _ rfl ⟨rfl, rfl, vi (by omega), trivial⟩)
      · have l1 : decide ((i : Int) < s.size) = false := decide_eq_false (by omega)
        have HIS : Hid (i = s.size) := Lib.hid (by omega)
        go_wp2
        go_ret
        exact ⟨_, rfl, rfl, fun _ => ⟨H4.out, fun j hj => HP.out j (by have := HIS.out; omega)⟩⟩
  have HR := Lib.hid HR
  clear hKK
  refine wp_loop_x (fun i : Nat => F5a s (dct s i) i) (fun n i w' => n = s.size - i ∧ i ≤ s.size ∧ w' = w) s.size 0 ⟨rfl, by omega, rfl⟩ (F5a_at _ _ _ rfl ⟨rfl, rfl, rfl, rfl, trivial⟩) ?_
  rintro n i u w2 ⟨hn, hi, rfl⟩ K hK
  have HN := Lib.hid hn
  have HK := Lib.hid hK
  clear hn hK
  rw [F5a_lit]
  have hb := dct_b s i
  obtain ⟨hb1, hb2⟩ := hb
  by_cases hlt : i < s.size
  · have l1 : decide ((i : Int) < s.size) = true := decide_eq_true (by omega)
    have l2 : (i : Int) < s.size := by omega
    have hS : dct s (i + 1) = if bt s i ||| 32 = 101 then 0 else if 0 ≤ dct s i ∧ dgP (bt s i) = true then dct s i + 1 else dct s i := rfl
    obtain ⟨c, hc⟩ : ∃ c : Nat, s[i].toNat = c := ⟨_, rfl⟩
    have hcb : bt s i = c := by rw [bt_eq hlt, hc]
    have hc256 : c < 256 := by rw [← hcb]; exact bt_lt s i
    rw [hcb] at hS
    have ho := or32 c hc256
    obtain ⟨o, hoo⟩ : ∃ o, c ||| 32 = o := ⟨_, rfl⟩
    rw [hoo] at ho hS
    obtain ⟨x, hx⟩ : ∃ x, dct s i = x := ⟨_, rfl⟩
    rw [hx] at hS hb1 hb2 ⊢
    clear hcb hc256 hoo hx
    by_cases ho1 : o = 101
    · rw [if_pos ho1] at hS
      subst ho1
      have HS := Lib.hid hS
      clear hS
      go_wp2
      exact HK.out (s.size - (i + 1)) (i + 1) _ _ (by have := HN.out; omega) ⟨rfl, by omega, rfl⟩ (by rw [HS.out]; exact F5a_at _ _ _ rfl ⟨rfl, rfl, rfl, vi (by omega), trivial⟩)
    · rw [if_neg ho1] at hS
      have e1 : ((o : Int) == 101) = false := by simp; omega
      have hD := isDigit_any (c : Int) w2
      obtain ⟨b, hbb⟩ : ∃ b, dg (c : Int) = b := ⟨_, rfl⟩
      rw [hbb] at hD
      rw [show dgP c = b from hbb] at hS
      have HD := Lib.hid hD
      clear hD hbb ho1
      by_cases h0 : 0 ≤ x
      · have g1 : decide (x ≥ 0) = true := decide_eq_true h0
        have g2 : decide (0 ≤ x) = true := decide_eq_true h0
        cases b
        · rw [if_neg (by simp)] at hS
          have HS := Lib.hid hS
          clear hS
          go_wp2_with fail
          refine HD.out.mono ?_
          rintro e w' ⟨rfl, rfl⟩
          go_wp2
          exact HK.out (s.size - (i + 1)) (i + 1) _ _ (by have := HN.out; omega) ⟨rfl, by omega, rfl⟩ (by rw [HS.out]; exact F5a_at _ _ _ rfl ⟨rfl, rfl, rfl, vi (by omega), trivial⟩)
        · rw [if_pos ⟨h0, rfl⟩] at hS
          have HS := Lib.hid hS
          clear hS
          go_wp2_with fail
          refine HD.out.mono ?_
          rintro e w' ⟨rfl, rfl⟩
          go_wp2
          exact HK.out (s.size - (i + 1)) (i + 1) _ _ (by have := HN.out; omega) ⟨rfl, by omega, rfl⟩ (by rw [HS.out]; exact F5a_at _ _ _ rfl ⟨rfl, rfl, rfl, vi (by omega), trivial⟩)
      · have g1 : decide (x ≥ 0) = false := decide_eq_false h0
        have g2 : decide (0 ≤ x) = false := decide_eq_false h0
        rw [if_neg (fun h => h0 h.1)] at hS
        have HS := Lib.hid hS
        clear hS
        go_wp2_with fail
        exact HK.out (s.size - (i + 1)) (i + 1) _ _ (by have := HN.out; omega) ⟨rfl, by omega, rfl⟩ (by rw [HS.out]; exact F5a_at _ _ _ rfl ⟨rfl, rfl, rfl, vi (by omega), trivial⟩)
  · obtain rfl : i = s.size := by omega
    have l1 : decide ((s.size : Int) < s.size) = false := decide_eq_false (by omega)
    obtain ⟨x, hx⟩ : ∃ x, dct s s.size = x := ⟨_, rfl⟩
    rw [hx] at HR hb1 hb2 ⊢
    clear hx
    go_wp2
    exact HR.out _ _ rfl (F5a_at _ _ _ rfl ⟨rfl, rfl, rfl, rfl, trivial⟩)

theorem Stt.nB_gt {s : ByteArray} {p : Nat} (hS : Stt s p) : p < nB s p := by
  have hp := hS.lt
  have ha := nA_b (s := s) (p := p) (by omega)
  unfold nB
  split
  · rename_i h
    have := nA_b (s := s) (p := nA s p + 1) (by omega)
    omega
  · rename_i h
    refine Nat.lt_of_not_le fun hn => ?_
    have e : nA s p = p := by omega
    rw [e] at h
    have h1 := nA_end (s := s) (p := p) (by omega)
    rw [e] at h1
    rcases hS with h2 | h2
    · exact h1 h2
    · exact h ⟨hp, h2.1⟩
theorem Stt.not_blank {s : ByteArray} {p : Nat} (hS : Stt s p) (h : p < s.size) : ¬ blank s[p] := by
  have e := bt_eq h
  unfold blank
  rcases hS with h | h <;> omega
theorem dcP_not_blank {s : ByteArray} {p : Nat} (hd : ∀ i, i < s.size → dcP (bt s i)) (h : p < s.size) : ¬ blank s[p] := by
  have e := bt_eq h
  have := hd p h
  unfold blank
  unfold dcP at this
  omega
theorem dcP_not_hex {s : ByteArray} {p : Nat} (hd : ∀ i, i < s.size → dcP (bt s i)) : ¬ hexS s p := by
  rintro ⟨_, h, hx⟩
  have := hd _ h
  have key : ∀ c : Fin 256, ((48 ≤ c.val ∧ c.val ≤ 57) ∨ c.val = 46 ∨ c.val = 101 ∨ c.val = 69 ∨ c.val = 43 ∨ c.val = 45) → ¬ (c.val ||| 32 = 120 ∨ c.val ||| 32 = 111 ∨ c.val ||| 32 = 98) := by decide +kernel
  exact key ⟨_, bt_lt s (p + 1)⟩ this hx
theorem scanN_none {s : ByteArray} {p : Nat} (h : (p + 1 < nA s p ∧ bt s p = 48) ∨ nX s (nB s p) = none) : scanN s p = none := by
  unfold scanN
  split
  · rfl
  · rcases h with h | h
    · contradiction
    · rw [h]
theorem scanN_bad {s : ByteArray} {p d : Nat} (h : nX s (nB s p) = some d) (hd : d < s.size) (hb : badP (bt s d) = true) : scanN s p = none := by
  unfold scanN
  split
  · rfl
  · rw [h]
    exact if_pos ⟨hd, hb⟩
theorem scanN_good {s : ByteArray} {p d : Nat} (h0 : ¬ (p + 1 < nA s p ∧ bt s p = 48)) (h : nX s (nB s p) = some d) (hb : d < s.size → badP (bt s d) = false) : scanN s p = some d := by
  unfold scanN
  rw [if_neg h0, h]
  exact if_neg fun ⟨h1, h2⟩ => by rw [hb h1] at h2; exact absurd h2 (by simp)
open Dc

theorem wrd_le {m : Nat} {e : Int} (he : e < 1024) : wrd m e ≤ Rnd.infR := by
  unfold wrd
  have h1 : m % 2 ^ 52 < 2 ^ 52 := Nat.mod_lt _ (by decide)
  have h2 : (e + 1023).toNat ≤ 2046 := by omega
  generalize (e + 1023).toNat = k at h2
  rw [Nat.or_comm, Nat.mul_comm, ← Nat.two_pow_add_eq_or_of_lt h1 k]
  unfold Rnd.infR
  have : 2 ^ 52 * k ≤ 2 ^ 52 * 2046 := Nat.mul_le_mul_left _ h2
  omega
theorem fin_le (x : St) (e : Int) : (fin x e).1 ≤ Rnd.infR := by
  unfold fin
  simp only
  generalize (if e < -1022 then (shr 2000 (-1022 - e).toNat x, (-1022 : Int)) else (x, e)) = y
  by_cases h : 1024 ≤ y.2
  · rw [if_pos h]; exact Nat.le_refl _
  rw [if_neg h]
  generalize rint (y.1.lsh 53) = m
  by_cases h2 : m = 9007199254740992
  · rw [if_pos h2]
    by_cases h3 : 1023 ≤ y.2
    · rw [if_pos h3]; exact Nat.le_refl _
    · rw [if_neg h3]; exact wrd_le (by omega)
  · rw [if_neg h2]
    refine wrd_le ?_
    split
    · decide
    · omega
theorem slowB_le (V : Nat) (dp : Int) : (slowB V dp).1 ≤ Rnd.infR := by
  unfold slowB
  by_cases h1 : 310 < dp
  · rw [if_pos h1]; exact Nat.le_refl _
  rw [if_neg h1]
  by_cases h2 : dp < -330
  · rw [if_pos h2]; exact Nat.zero_le _
  rw [if_neg h2]
  exact fin_le _ _
theorem gF_le {V : Nat} {D : Int} (hV : V < 10 ^ N8) (hB : V / 10 ^ N81 = 0 → V % 10 ^ N81 = 0) : gF V D ≤ Rnd.infR := by
  unfold gF
  split
  · exact Nat.zero_le _
  rename_i h0
  have hd : V / 10 ^ N81 < 10 ^ 19 := by
    rw [Nat.div_lt_iff_lt_mul (Nat.pow_pos (by decide)), ← Nat.pow_add, ← N81_eq]; exact hV
  generalize hm : V / 10 ^ N81 = m at hd hB ⊢
  split
  · by_cases h : m = 0
    · subst h
      unfold Rnd.fastF
      rw [if_pos rfl]
      exact Nat.zero_le _
    · exact IsR_le (Rnd.fastF_IsR h hd)
  · unfold longF
    split
    · exact Nat.le_refl _
    split
    · exact Nat.zero_le _
    split
    · rename_i hn _ _ _
      exact IsR_le (Rnd.pfF_IsR (fun h => hn (hB h)) (by omega) (by omega) (by omega))
    · exact slowB_le _ _
theorem order_self {b : Nat} (hb : b ≤ Rnd.infR) : Ieee.double.order b b = some .eq := by
  unfold Ieee.Format.order
  rcases read_pos hb with ⟨m, i, h⟩ | h
  · rw [h]
    simp only [Ieee.Datum.order]
    rw [Int.compare_eq_eq.2 rfl]
  · rw [h]; rfl
theorem fV_ok {s : ByteArray} {q : Nat} (hq : q ≤ 100) (hM : MOk s q) : fV s q < 10 ^ N8 ∧ (fV s q / 10 ^ N81 = 0 → fV s q % 10 ^ N81 = 0) := by
  have h := mv s q hM.1
  have hb := mst_b s q hM.1
  have hfl := fst_lt s q hM.1
  have e8 := N8_eq
  have hnd : (mst s q).nd ≤ N8 := by have := hb.2.2.1; omega
  refine ⟨?_, fun hz => ?_⟩
  · unfold fV
    calc fst s q * 10 ^ (N8 - (mst s q).nd) < 10 ^ (mst s q).nd * 10 ^ (N8 - (mst s q).nd) := Nat.mul_lt_mul_of_pos_right hfl (p10 _)
      _ = 10 ^ N8 := by rw [← Nat.pow_add]; congr 1; omega
  · unfold fV at hz ⊢
    by_cases h19 : 19 ≤ (mst s q).nd
    · exfalso
      have hlo := h.lo (by omega)
      rw [(fV_div (F := fst s q) hnd h19).1] at hz
      have := (Nat.div_eq_zero_iff).1 hz
      have h2 : 10 ^ ((mst s q).nd - 19) ≤ 10 ^ ((mst s q).nd - 1) := Nat.pow_le_pow_right (by omega) (by omega)
      have := p10 ((mst s q).nd - 19)
      omega
    · exact (fV_small (F := fst s q) hnd (show (mst s q).nd < 19 by omega)).2
theorem scanN_some {s : ByteArray} {p d : Nat} (h : scanN s p = some d) : nX s (nB s p) = some d := by
  unfold scanN at h
  split at h
  · exact absurd h (by simp)
  · split at h
    · exact absurd h (by simp)
    · rename_i x hx
      split at h
      · exact absurd h (by simp)
      · rw [hx]; exact h
theorem num_order {s : ByteArray} (hs : s.size ≤ 100) (hL : Lit s) : Ieee.double.order (numL s) (numL s) = some .eq := by
  obtain ⟨h1, h2, h3, h4, h5, h6⟩ := scan_ok hs hL.1 (scanN_some hL.2.1)
  have e : s.extract 0 s.size = s := by rw [ByteArray.extract_zero_size]
  rw [e] at h5
  have hv := fV_ok (q := nB s 0 - 0) (by omega) h5
  exact order_self (gF_le hv.1 hv.2)
end Go.Proofs.YtblphppdfiipfaaDoor
