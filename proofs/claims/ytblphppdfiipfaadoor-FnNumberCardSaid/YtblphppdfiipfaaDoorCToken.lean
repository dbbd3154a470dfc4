/- The lexer takes a token. Conditions: none. -/
import Derived.Test.YtblphppdfiipfaaDoorCNumberC
import Derived.Test.YtblphppdfiipfaaDoorCMinB
import Derived.Test.YtblphppdfiipfaaDoorCState
import Derived.Test.YtblphppdfiipfaaDoorCPiece
namespace Go.Proofs.YtblphppdfiipfaaDoor
open Go.RowKit
set_option maxRecDepth 100000

/-- what number leaves -/
def NumPost (B b : Nat) (s : ByteArray) (w0 : World) (p : Nat) (T : List Tok) (D : List Int) (O : List (Bool × Int)) (e : Ending) (w' : World) : Prop :=
  e = .returned (.tuple #[]) ∧ ∃ p' op' T', LS B b s w' p' op' T' D O ∧ Below B w0 w' ∧ p < p' ∧ p' ≤ s.size ∧
    ((T' = T ∧ op' = true ∧ (¬ hexS s p → scanN s p = none)) ∨ ∃ t : Tok, T' = T ++ [t] ∧ t.k = 2 ∧ op' = false ∧ (¬ hexS s p → scanN s p = some p' ∧ t.f = numG (s.extract p p') (nB s p - p)))

set_option maxHeartbeats 2000000 in
theorem n19_4 (B b bx bs : Nat) (T : World → Prop) (hP : PfSaid T) (hU : PuSaid T) (z : Bool) (s : ByteArray) (p : Nat) (Ts : List Tok) (D : List Int) (O : List (Bool × Int)) (w0 w : World) (Post : Ending → World → Prop) (a : Act)
    (ha : (F19e b z bx bs p fun k => a.tmps.getD k undef) = a) (hs : s.size ≤ 100) (hS : Stt s p) (hTs : Ts.length ≤ 200) (hN : NE B b s w0 w p false Ts D O bx bs) (hT : ∀ w', Below B w0 w' → T w')
    (hpost : ∀ e w', NumPost B b s w0 p Ts D O e w' → Post e w') :
    Code.wp Tryd.prog (c19 [true, true, true, true]) (bodyPost Tryd.prog Tryd.f19 Post) a w := by
  have hp := hS.lt
  rw [← ha]
  clear ha
  generalize (fun k => a.tmps.getD k undef) = u
  conv => arg 2; whnf
  rw [F19e_lit, sg352_13, sg352_330]
  have HTS := Lib.hid hTs
  have HN := Lib.hid hN
  have HPO := Lib.hid hpost
  clear hN hpost hTs
  obtain ⟨c1, c4, c5, f1, f4⟩ := HN.out.cells
  have x2 := HN.out.x
  have x4 := HN.out.t
  refine wp_seq_k ?_
  intro K1 hK1
  have HZ := Lib.hid fun (q d f : Nat) (hq : p < d) (hqd : q ≤ d) (hd : d ≤ s.size) (h1 : ¬ hexS s p → nX s (nB s p) = some d ∧ ¬ (p + 1 < nA s p ∧ bt s p = 48) ∧ f = numG (s.extract p d) (nB s p - p)) (a : Act) (w1 : World) (hN1 : NE B b s w0 w1 d false Ts D O bx bs) (ha : (F19z b z bx bs q f fun k => a.tmps.getD k undef) = a) =>
    hK1 a w1 (wp_code (c := c19 [true, true, true, true, true]) (by kernel_rfl) (n19_z B b bx bs z false s q d f Ts D O w0 w1 Post a ha hqd hd HTS.out hN1
      (fun h2 h3 w' hL hB => HPO.out _ _ ⟨rfl, d, true, Ts, hL, hB, hq, hd, .inl ⟨rfl, rfl, fun hx => scanN_bad (h1 hx).1 h2 h3⟩⟩)
      (fun h2 w' t ht hf hL hB => HPO.out _ _ ⟨rfl, d, false, _, hL, hB, hq, hd, .inr ⟨t, rfl, ht, rfl, fun hx => ⟨scanN_good (h1 hx).2.1 (h1 hx).1 h2, hf.trans (h1 hx).2.2⟩⟩⟩)))
  clear hK1
  have HBAD := Lib.hid fun (h1 : ¬ hexS s p → scanN s p = none) (w' : World) (d : Nat) (hq : p < d) (hd : d ≤ s.size) (hN1 : NE B b s w0 w' d true Ts D O bx bs) =>
    HPO.out (.returned (.tuple #[])) w' ⟨rfl, d, true, Ts, (by obtain ⟨o, dd, q, la, co, hL, _, _⟩ := hN1.l; exact ⟨o, dd, q, la, co, hL⟩), hN1.be, hq, hd, .inl ⟨rfl, rfl, h1⟩⟩
  clear HPO
  refine wp_seq_h ?_
  intro K2 HK2
  have hdec : Hid (¬ hexS s p → ∀ (m : Nat) (a' : Act), (F19e b z bx bs p fun k => a'.tmps.getD k undef) = a' → Code.wp Tryd.prog (c19 [true, true, true, true, false, true, true]) (Exit.then K1 (bodyPost Tryd.prog Tryd.f19 Post)) a' (w.drewN m)) := Lib.hid fun hx m a' he =>
    n19_e0 B b bx bs T hP z false s p Ts D O w0 (w.drewN m) K1 Post a' he hs hS hp hS.nB_gt (HN.out.gbn (gb_drewN (World.grownBy.refl _ _) m)) hT
      (fun h w' d h1 h2 h3 => HBAD.out (fun _ => scanN_none h) w' d h1 h2 h3)
      (fun h a w' d hX hN' ha' => HZ.out p d _ (scan_ok hs hS hX).1 (Nat.le_of_lt (scan_ok hs hS hX).1) (scan_ok hs hS hX).2.1 (fun _ => ⟨hX, h, rfl⟩) a w' hN' ha')
  have hhex : Hid (p + 1 < s.size → hexS s p → (bt s (p + 1) ||| 32 = 120 ∨ bt s (p + 1) ||| 32 = 111 ∨ bt s (p + 1) ||| 32 = 98) → ∀ (m : Nat) (a' : Act), (F19e b z bx bs p fun k => a'.tmps.getD k undef) = a' → Code.wp Tryd.prog (c19 [true, true, true, true, false, true, false]) (Exit.then K1 (bodyPost Tryd.prog Tryd.f19 Post)) a' (w.drewN m)) := Lib.hid fun h1 hx h2 m a' he =>
    n19_hex B b bx bs T hU z false s p p Ts D O w0 (w.drewN m) K1 Post a' he hs h1 h2 (HN.out.gbn (gb_drewN (World.grownBy.refl _ _) m)) hT
      (fun w' d h3 h4 h5 => HBAD.out (fun h => absurd hx h) w' d h3 h4 h5)
      (fun a w' q d f h3 h4 h5 hN' ha' => HZ.out q d f (by omega) h4 h5 (fun h => absurd hx h) a w' hN' ha')
  clear HZ HBAD HN
  have g0 : (p : Int) < s.size := by omega
  obtain ⟨c, hc⟩ : ∃ c : Nat, s[p].toNat = c := ⟨_, rfl⟩
  have hcb : bt s p = c := by rw [bt_eq hp, hc]
  by_cases h48 : c = 48
  · have g1 : ((c : Int) == 48) = true := by simp; omega
    by_cases hlt : p + 1 < s.size
    · obtain ⟨w1, w2, w3, w4, w5⟩ := idx1 hs hlt
      obtain ⟨c2, hc2⟩ : ∃ c2 : Nat, s[p + 1].toNat = c2 := ⟨_, rfl⟩
      have hcb2 : bt s (p + 1) = c2 := by rw [bt_eq hlt, hc2]
      have g3 := or32 c2 (by rw [← hcb2]; exact bt_lt s _)
      obtain ⟨o, ho⟩ : ∃ o, c2 ||| 32 = o := ⟨_, rfl⟩
      rw [ho] at g3
      have HO : Hid (bt s (p + 1) ||| 32 = o) := Lib.hid (by rw [hcb2]; exact ho)
      have H48 : Hid (bt s p = 48) := Lib.hid (by rw [hcb]; exact h48)
      have HLT := Lib.hid hlt
      clear hcb hcb2 ho h48
      by_cases k1 : o = 120
      · have e1 : ((o : Int) == 120) = true := by simp; omega
        have HX : Hid (bt s (p + 1) ||| 32 = 120 ∨ bt s (p + 1) ||| 32 = 111 ∨ bt s (p + 1) ||| 32 = 98) := Lib.hid (by rw [HO.out]; omega)
        clear k1
        go_quiet (fail)
        apply HK2.out
        clear HK2
        refine wp_cond (t := true) rfl ?_
        rw [if_pos rfl]
        exact wp_code (c := c19 [true, true, true, true, false, true, false]) (by kernel_rfl) (hhex.out HLT.out ⟨H48.out, HLT.out, HX.out⟩ HX.out _ _ (F19e_at _ _ _ _ _ rfl ⟨rfl, rfl, rfl, rfl, rfl, rfl, trivial⟩))
      · have e1 : ((o : Int) == 120) = false := by simp; omega
        by_cases k2 : o = 111
        · have e2 : ((o : Int) == 111) = true := by simp; omega
          have HX : Hid (bt s (p + 1) ||| 32 = 120 ∨ bt s (p + 1) ||| 32 = 111 ∨ bt s (p + 1) ||| 32 = 98) := Lib.hid (by rw [HO.out]; omega)
          clear k1 k2
          go_quiet (fail)
          apply HK2.out
          clear HK2
          refine wp_cond (t := true) rfl ?_
          rw [if_pos rfl]
          exact wp_code (c := c19 [true, true, true, true, false, true, false]) (by kernel_rfl) (hhex.out HLT.out ⟨H48.out, HLT.out, HX.out⟩ HX.out _ _ (F19e_at _ _ _ _ _ rfl ⟨rfl, rfl, rfl, rfl, rfl, rfl, trivial⟩))
        · have e2 : ((o : Int) == 111) = false := by simp; omega
          by_cases k3 : o = 98
          · have e3 : ((o : Int) == 98) = true := by simp; omega
            have HX : Hid (bt s (p + 1) ||| 32 = 120 ∨ bt s (p + 1) ||| 32 = 111 ∨ bt s (p + 1) ||| 32 = 98) := Lib.hid (by rw [HO.out]; omega)
            clear k1 k2 k3
            go_quiet (fail)
            apply HK2.out
            clear HK2
            refine wp_cond (t := true) rfl ?_
            rw [if_pos rfl]
            exact wp_code (c := c19 [true, true, true, true, false, true, false]) (by kernel_rfl) (hhex.out HLT.out ⟨H48.out, HLT.out, HX.out⟩ HX.out _ _ (F19e_at _ _ _ _ _ rfl ⟨rfl, rfl, rfl, rfl, rfl, rfl, trivial⟩))
          · have e3 : ((o : Int) == 98) = false := by simp; omega
            have HX : Hid (¬ hexS s p) := Lib.hid (by rintro ⟨_, _, h⟩; rw [HO.out] at h; omega)
            clear k1 k2 k3
            go_quiet (fail)
            apply HK2.out
            clear HK2
            refine wp_cond (t := false) rfl ?_
            rw [if_neg (by decide)]
            exact wp_code (c := c19 [true, true, true, true, false, true, true]) (by kernel_rfl) (hdec.out HX.out _ _ (F19e_at _ _ _ _ _ rfl ⟨rfl, rfl, rfl, rfl, rfl, rfl, trivial⟩))
    · have w1 : decide ((p : Int) + 1 < s.size) = false := by simpa using (by omega)
      have w5 : IntKind.i64.wrap ((p : Int) + 1) = p + 1 := IntWalk.i64_in _ (by omega)
      have HX : Hid (¬ hexS s p) := Lib.hid (by rintro ⟨_, h, _⟩; omega)
      clear hcb h48 hlt
      go_quiet (fail)
      apply HK2.out
      clear HK2
      refine wp_cond (t := false) rfl ?_
      rw [if_neg (by decide)]
      exact wp_code (c := c19 [true, true, true, true, false, true, true]) (by kernel_rfl) (hdec.out HX.out _ _ (F19e_at _ _ _ _ _ rfl ⟨rfl, rfl, rfl, rfl, rfl, rfl, trivial⟩))
  · have g1 : ((c : Int) == 48) = false := by simp; omega
    have HX : Hid (¬ hexS s p) := Lib.hid (by rintro ⟨h, _⟩; omega)
    clear hcb h48
    go_quiet (fail)
    apply HK2.out
    clear HK2
    refine wp_cond (t := false) rfl ?_
    rw [if_neg (by decide)]
    exact wp_code (c := c19 [true, true, true, true, false, true, true]) (by kernel_rfl) (hdec.out HX.out _ _ (F19e_at _ _ _ _ _ rfl ⟨rfl, rfl, rfl, rfl, rfl, rfl, trivial⟩))
set_option maxRecDepth 100000

def F19r (b : Nat) (z : Bool) (bx bs : Nat) (p : Nat)  : (Nat → Value) → Act := FG 352 [(0, .pointer (some ⟨b, 0, none⟩)), (1, .bool z), (2, .pointer (some ⟨bx, 0, none⟩)), (4, .pointer (some ⟨bs, 0, none⟩)), (5, .int .i64 p)]
theorem F19r_lit (b : Nat) (z : Bool) (bx bs : Nat) (p : Nat) (u : Nat → Value) : F19r b  z  bx bs  p u = { tmps := List.toArray (.pointer (some ⟨b, 0, none⟩) :: .bool z :: .pointer (some ⟨bx, 0, none⟩) :: u 3 :: .pointer (some ⟨bs, 0, none⟩) :: .int .i64 p :: u 6 :: u 7 :: u 8 :: u 9 :: u 10 :: u 11 :: u 12 :: sg352_13 u (u 329 :: sg352_330 u)), defers := [] } := by kernel_rfl
theorem F19r_at (b : Nat) (z : Bool) (bx bs : Nat) (p : Nat)  {L : List Value} (hl : L.length = 352) (hn : NmOk L [(0, .pointer (some ⟨b, 0, none⟩)), (1, .bool z), (2, .pointer (some ⟨bx, 0, none⟩)), (4, .pointer (some ⟨bs, 0, none⟩)), (5, .int .i64 p)]) : (F19r b  z  bx bs  p fun k => (Act.mk L.toArray []).tmps.getD k undef) = { tmps := L.toArray, defers := [] } := FG_at hl hn
/-- what each operation lays: the text is kept in a variable of its own -/
def exR (b bs : Nat) (s : ByteArray) (p : Nat) : Nat → Option (Nat × Value)
  | 0 => some (15, .pointer (some ⟨b, 0, none⟩))
  | 1 => some (16, .pointer (some ⟨b, 0, none⟩))
  | 2 => some (17, .pointer (some ⟨b, 0, none⟩))
  | 3 => some (18, .string s)
  | 4 => some (19, .pointer (some ⟨b, 0, none⟩))
  | 5 => some (20, .pointer (some ⟨b, 0, none⟩))
  | 6 => some (21, .pointer (some ⟨b, 1, none⟩))
  | 7 => some (22, .int .i64 p)
  | 8 => some (4, .pointer (some ⟨bs, 0, none⟩))
  | 10 => some (5, .int .i64 p)
  | _ => none
def slR (i : Nat) : Nat := if i ≤ 7 then 15 + i else if i = 8 then 4 else 5
theorem exR_slot {b bs : Nat} {s : ByteArray} {p i : Nat} {x : Nat × Value} (h : exR b bs s p i = some x) : x.1 = slR i ∧ i < 11 ∧ i ≠ 9 := by
  unfold exR at h
  split at h <;> simp at h <;> subst h <;> simp [slR]
theorem hSR (k : Nat) : (k ≤ 7 → slR k = 15 + k) ∧ (k = 8 → slR k = 4) ∧ (k = 10 → slR k = 5) := by
  refine ⟨fun h => ?_, fun h => ?_, fun h => ?_⟩
  · unfold slR; rw [if_pos h]
  all_goals subst h; rfl
structure WorldR (W w : World) (s : ByteArray) (L : Array Bool) : Prop where
  st : L.getD 8 false = false → w = W
  n : L.getD 8 false = true → ∃ v, w.heap[W.heap.size]? = some (.cells #[v] 9 (0, 0)) ∧ (L.getD 9 false = true → v = .string s)
  g : W.grownBy w none
  e9 : L.getD 9 false = true → L.getD 8 false = true
theorem WorldR.same {W w : World} {s : ByteArray} {L : Array Bool} (h : WorldR W w s L) (hL : L.size = 11) (i : Nat) (hi : i < 11) (h8 : 8 ≠ i) (h9 : 9 ≠ i) : WorldR W w s (L.setIfInBounds i true) := by
  refine ⟨?_, ?_, h.g, ?_⟩
  · simp only [lset_getG hL i hi, if_neg h8]; exact h.st
  · simp only [lset_getG hL i hi, if_neg h8, if_neg h9]; exact h.n
  · simp only [lset_getG hL i hi, if_neg h8, if_neg h9]; exact h.e9
theorem WorldR.make {W : World} {s : ByteArray} {L : Array Bool} (h : WorldR W W s L) (hL : L.size = 11) (hl : L.getD 8 false = false) (v : Value) : WorldR W (W.alloc (.cells #[v] 9 (0, 0))) s (L.setIfInBounds 8 true) := by
  have n9 : ¬ L.getD 9 false = true := fun e => by have := h.e9 e; rw [hl] at this; exact absurd this (by simp)
  refine ⟨?_, ?_, World.grownBy_alloc _ _ _, ?_⟩
  · rw [lset_getG hL 8 (by omega), if_pos rfl]; intro e; exact absurd e (by simp)
  · rw [lset_getG hL 8 (by omega) 9, if_neg (by omega)]
    exact fun _ => ⟨v, heap_alloc_new W _, fun e => absurd e n9⟩
  · rw [lset_getG hL 8 (by omega) 9, if_neg (by omega)]
    exact fun e => absurd e n9
theorem WorldR.set {W w : World} {s : ByteArray} {L : Array Bool} (h : WorldR W w s L) (hL : L.size = 11) (h8 : L.getD 8 false = true) : WorldR W (w.setCell ⟨W.heap.size, 0, none⟩ (.string s)) s (L.setIfInBounds 9 true) := by
  obtain ⟨v, hv, _⟩ := h.n h8
  have hlt := lt_of_block hv
  have g8 : (L.setIfInBounds 9 true).getD 8 false = true := by rw [lset_getG hL 9 (by omega), if_neg (by omega)]; exact h8
  refine ⟨fun e => by rw [g8] at e; exact absurd e (by simp), fun _ => ⟨.string s, ?_, fun _ => rfl⟩, ?_, fun _ => g8⟩
  · rw [Array.getElem?_eq_getElem hlt, Option.some.injEq] at hv
    show (w.heap.modify W.heap.size _)[W.heap.size]? = _
    rw [Array.getElem?_eq_getElem (by simpa using hlt), Array.getElem_modify_self, hv]
    rfl
  · exact gb_fresh h.g (gb_set (b := W.heap.size) (World.grownBy.refl _ _) 0 _) (Nat.le_refl _)

set_option maxHeartbeats 2000000 in
theorem region1_any (b bx : Nat) (s : ByteArray) (p : Nat) (a0 : Act) (w0 : World) (Q : Exit → Act → World → Prop) (hz : a0.tmps.size = 352) (hd : a0.defers = [])
    (h2 : a0.tmps.getD 2 undef = .pointer (some ⟨bx, 0, none⟩)) (hbx0 : w0.cell? ⟨bx, 0, none⟩ = some (.pointer (some ⟨b, 0, none⟩))) (hc00 : w0.cell? ⟨b, 0, none⟩ = some (.string s)) (hc10 : w0.cell? ⟨b, 1, none⟩ = some (.int .i64 p))
    (hfin : ∀ (a' : Act) (w' : World), a'.tmps.size = 352 → a'.defers = [] → (∀ j, j < 4 → a'.tmps.getD j undef = a0.tmps.getD j undef) → a'.tmps.getD 4 undef = .pointer (some ⟨w0.heap.size, 0, none⟩) → a'.tmps.getD 5 undef = .int .i64 p →
      w'.heap[w0.heap.size]? = some (.cells #[.string s] 9 (0, 0)) → w0.grownBy w' none → Q .normal a' w') :
    Code.wp Tryd.prog (c19 [true, false]) Q a0 w0 := by
  obtain ⟨W, hWW⟩ : ∃ W : World, W = { w0 with drawn := w0.drawn + 1 } := ⟨_, rfl⟩
  have hbx : W.cell? ⟨bx, 0, none⟩ = some (.pointer (some ⟨b, 0, none⟩)) := by rw [hWW]; exact hbx0
  have hc0 : W.cell? ⟨b, 0, none⟩ = some (.string s) := by rw [hWW]; exact hc00
  have hc1 : W.cell? ⟨b, 1, none⟩ = some (.int .i64 p) := by rw [hWW]; exact hc10
  have hgW : w0.grownBy W none := by rw [hWW]; exact gb_drewN (World.grownBy.refl _ _) 1
  have hsz : W.heap.size = w0.heap.size := by rw [hWW]
  rw [← hsz] at hfin
  conv => arg 2; whnf
  refine wp_region_inv (by kernel_rfl) (fun L a w => L.size = 11 ∧ SlotG 11 352 4 22 (exR b W.heap.size s p) L a0 a ∧ WorldR W w s L) ?_ ?_ ?_ ?_
  · rw [← hWW]
    exact ⟨by simp, ⟨hd, hz, fun _ _ => rfl, fun i x hi hl _ => absurd hl (repF _ i)⟩, ⟨fun _ => rfl, fun h => absurd h (repF _ _), World.grownBy.refl _ _, fun h => absurd h (repF _ _)⟩⟩
  · intro i o ho
    have hi : i < 11 := by
      have := (Array.getElem?_eq_some_iff.1 ho).1
      simpa using this
    have hcases : i = 0 ∨ i = 1 ∨ i = 2 ∨ i = 3 ∨ i = 4 ∨ i = 5 ∨ i = 6 ∨ i = 7 ∨ i = 8 ∨ i = 9 ∨ i = 10 := by omega
    rcases hcases with rfl | rfl | rfl | rfl | rfl | rfl | rfl | rfl | rfl | rfl | rfl
    all_goals
      injection ho with ho
      subst ho
      decide +kernel
  · intro L a w i oo hLs hoo hl hdep ⟨hL, hA, hW⟩ K hK
    have hi : i < 11 := by
      have := (Array.getElem?_eq_some_iff.1 hoo).1
      simpa using this
    have hcases : i = 0 ∨ i = 1 ∨ i = 2 ∨ i = 3 ∨ i = 4 ∨ i = 5 ∨ i = 6 ∨ i = 7 ∨ i = 8 ∨ i = 9 ∨ i = 10 := by omega
    rcases hcases with rfl | rfl | rfl | rfl | rfl | rfl | rfl | rfl | rfl | rfl | rfl
    · injection hoo with hoo
      subst hoo
      rw [if_pos (by rfl)]
      have r2 := (hA.far 2 (by omega)).trans h2
      have kx := gbn_cell hW.g hbx
      unfold Oper.wp
      simp [execOp, go_sem, r2, kx]
      exact hK _ _ ⟨by simpa using hL, hA.put hL 0 (by omega) (15, _) rfl (by omega) (by omega) (by omega) (fun _ _ _ _ => rfl) (fun k y h1 h2 => by have := exR_slot h2; have hk := hSR k; show y.1 ≠ 15; omega), hW.same hL 0 (by omega) (by omega) (by omega)⟩
    · injection hoo with hoo
      subst hoo
      rw [if_pos (by rfl)]
      have q15 : a.tmps.getD 15 undef = .pointer (some ⟨b, 0, none⟩) := hA.at_ 0 (15, _) (by omega) (hdep { on := 0, ground := .data } (by simp) rfl) rfl
      unfold Oper.wp
      simp [execOp, go_sem, q15]
      exact hK _ _ ⟨by simpa using hL, hA.put hL 1 (by omega) (16, _) rfl (by omega) (by omega) (by omega) (fun _ _ _ _ => rfl) (fun k y h1 h2 => by have := exR_slot h2; have hk := hSR k; show y.1 ≠ 16; omega), hW.same hL 1 (by omega) (by omega) (by omega)⟩
    · injection hoo with hoo
      subst hoo
      rw [if_pos (by rfl)]
      have q16 : a.tmps.getD 16 undef = .pointer (some ⟨b, 0, none⟩) := hA.at_ 1 (16, _) (by omega) (hdep { on := 1, ground := .data } (by simp) rfl) rfl
      unfold Oper.wp
      simp [execOp, go_sem, q16]
      exact hK _ _ ⟨by simpa using hL, hA.put hL 2 (by omega) (17, _) rfl (by omega) (by omega) (by omega) (fun _ _ _ _ => rfl) (fun k y h1 h2 => by have := exR_slot h2; have hk := hSR k; show y.1 ≠ 17; omega), hW.same hL 2 (by omega) (by omega) (by omega)⟩
    · injection hoo with hoo
      subst hoo
      rw [if_pos (by rfl)]
      have q17 : a.tmps.getD 17 undef = .pointer (some ⟨b, 0, none⟩) := hA.at_ 2 (17, _) (by omega) (hdep { on := 2, ground := .data } (by simp) rfl) rfl
      have k0 := gbn_cell hW.g hc0
      unfold Oper.wp
      simp [execOp, go_sem, q17, k0]
      exact hK _ _ ⟨by simpa using hL, hA.put hL 3 (by omega) (18, _) rfl (by omega) (by omega) (by omega) (fun _ _ _ _ => rfl) (fun k y h1 h2 => by have := exR_slot h2; have hk := hSR k; show y.1 ≠ 18; omega), hW.same hL 3 (by omega) (by omega) (by omega)⟩
    · injection hoo with hoo
      subst hoo
      rw [if_pos (by rfl)]
      have r2 := (hA.far 2 (by omega)).trans h2
      have kx := gbn_cell hW.g hbx
      unfold Oper.wp
      simp [execOp, go_sem, r2, kx]
      exact hK _ _ ⟨by simpa using hL, hA.put hL 4 (by omega) (19, _) rfl (by omega) (by omega) (by omega) (fun _ _ _ _ => rfl) (fun k y h1 h2 => by have := exR_slot h2; have hk := hSR k; show y.1 ≠ 19; omega), hW.same hL 4 (by omega) (by omega) (by omega)⟩
    · injection hoo with hoo
      subst hoo
      rw [if_pos (by rfl)]
      have q19 : a.tmps.getD 19 undef = .pointer (some ⟨b, 0, none⟩) := hA.at_ 4 (19, _) (by omega) (hdep { on := 4, ground := .data } (by simp) rfl) rfl
      unfold Oper.wp
      simp [execOp, go_sem, q19]
      exact hK _ _ ⟨by simpa using hL, hA.put hL 5 (by omega) (20, _) rfl (by omega) (by omega) (by omega) (fun _ _ _ _ => rfl) (fun k y h1 h2 => by have := exR_slot h2; have hk := hSR k; show y.1 ≠ 20; omega), hW.same hL 5 (by omega) (by omega) (by omega)⟩
    · injection hoo with hoo
      subst hoo
      rw [if_pos (by rfl)]
      have q20 : a.tmps.getD 20 undef = .pointer (some ⟨b, 0, none⟩) := hA.at_ 5 (20, _) (by omega) (hdep { on := 5, ground := .data } (by simp) rfl) rfl
      unfold Oper.wp
      simp [execOp, go_sem, q20]
      exact hK _ _ ⟨by simpa using hL, hA.put hL 6 (by omega) (21, _) rfl (by omega) (by omega) (by omega) (fun _ _ _ _ => rfl) (fun k y h1 h2 => by have := exR_slot h2; have hk := hSR k; show y.1 ≠ 21; omega), hW.same hL 6 (by omega) (by omega) (by omega)⟩
    · injection hoo with hoo
      subst hoo
      rw [if_pos (by rfl)]
      have q21 : a.tmps.getD 21 undef = .pointer (some ⟨b, 1, none⟩) := hA.at_ 6 (21, _) (by omega) (hdep { on := 6, ground := .data } (by simp) rfl) rfl
      have k1 := gbn_cell hW.g hc1
      unfold Oper.wp
      simp [execOp, go_sem, q21, k1]
      exact hK _ _ ⟨by simpa using hL, hA.put hL 7 (by omega) (22, _) rfl (by omega) (by omega) (by omega) (fun _ _ _ _ => rfl) (fun k y h1 h2 => by have := exR_slot h2; have hk := hSR k; show y.1 ≠ 22; omega), hW.same hL 7 (by omega) (by omega) (by omega)⟩
    · injection hoo with hoo
      subst hoo
      rw [if_pos (by rfl)]
      have hw := hW.st hl
      subst hw
      unfold Oper.wp
      simp [execOp, go_sem]
      exact hK _ _ ⟨by simpa using hL, hA.put hL 8 (by omega) (4, _) rfl (by omega) (by omega) (by omega) (fun _ _ _ _ => rfl) (fun k y h1 h2 => by have := exR_slot h2; have hk := hSR k; show y.1 ≠ 4; omega), hW.make hL hl _⟩
    · injection hoo with hoo
      subst hoo
      rw [if_pos (by rfl)]
      have q4 : a.tmps.getD 4 undef = .pointer (some ⟨W.heap.size, 0, none⟩) := hA.at_ 8 (4, _) (by omega) (hdep { on := 8, ground := .data } (by simp) rfl) rfl
      have q18 : a.tmps.getD 18 undef = .string s := hA.at_ 3 (18, _) (by omega) (hdep { on := 3, ground := .data } (by simp) rfl) rfl
      obtain ⟨v0, m2, m3⟩ := hW.n (hdep { on := 8, ground := .data } (by simp) rfl)
      have k8 : w.cell? ⟨W.heap.size, 0, none⟩ = some v0 := by simp [World.cell?, m2]
      have f8 : w.frozen? ⟨W.heap.size, 0, none⟩ = false := by simp [World.frozen?, m2]
      unfold Oper.wp
      simp [execOp, go_sem, q4, q18, k8, f8]
      exact hK _ _ ⟨by simpa using hL, hA.none hL 9 (by omega) rfl undef, hW.set hL (hdep { on := 8, ground := .data } (by simp) rfl)⟩
    · injection hoo with hoo
      subst hoo
      rw [if_pos (by rfl)]
      have q22 : a.tmps.getD 22 undef = .int .i64 p := hA.at_ 7 (22, _) (by omega) (hdep { on := 7, ground := .data } (by simp) rfl) rfl
      unfold Oper.wp
      simp [execOp, go_sem, q22]
      exact hK _ _ ⟨by simpa using hL, hA.put hL 10 (by omega) (5, _) rfl (by omega) (by omega) (by omega) (fun _ _ _ _ => rfl) (fun k y h1 h2 => by have := exR_slot h2; have hk := hSR k; show y.1 ≠ 5; omega), hW.same hL 10 (by omega) (by omega) (by omega)⟩
  · intro L a w hall ⟨hL, hA, hW⟩
    have hall : ∀ i, i < 11 → L.getD i false = true := fun i hi => hall i (by simpa using hi)
    obtain ⟨v, h1, h3⟩ := hW.n (hall 8 (by omega))
    rw [h3 (hall 9 (by omega))] at h1
    exact hfin a w hA.z hA.d (fun j hj => hA.far j (by omega)) (hA.at_ 8 (4, _) (by omega) (hall 8 (by omega)) rfl) (hA.at_ 10 (5, _) (by omega) (hall 10 (by omega)) rfl) h1 (Lib.grownBy_trans hgW hW.g)

set_option maxHeartbeats 4000000 in
theorem number_any (B b : Nat) (T : World → Prop) (hP : PfSaid T) (hU : PuSaid T) (z : Bool) (s : ByteArray) (p : Nat) (Ts : List Tok) (D : List Int) (O : List (Bool × Int)) (w : World)
    (hs : s.size ≤ 100) (hS : Stt s p) (hTs : Ts.length ≤ 200) (h : LS B b s w p false Ts D O) (hT : ∀ w', Below B w w' → T w') :
    Calls Tryd.prog 19 #[.pointer (some ⟨b, 0, none⟩), .bool z] w (NumPost B b s w p Ts D O) := by
  obtain ⟨o, d, q, la, co, h⟩ := h
  have hbl := lt_of_block h.x
  have h1 := h.kept (World.grownBy_alloc w (.cells #[.pointer (some ⟨b, 0, none⟩)] 35) none)
  have hxb : (w.alloc (.cells #[.pointer (some ⟨b, 0, none⟩)] 35)).cell? ⟨w.heap.size, 0, none⟩ = some (.pointer (some ⟨b, 0, none⟩)) := by
    rw [World.cell?_alloc_at _ _ _ _ rfl]; rfl
  have hsz : (w.alloc (.cells #[.pointer (some ⟨b, 0, none⟩)] 35)).heap.size = w.heap.size + 1 := by simp
  have hg1 := World.grownBy_alloc w (.cells #[.pointer (some ⟨b, 0, none⟩)] 35) none
  have ho : ∀ k, o.ownBlock = some k → k < w.heap.size := fun k hk => own_lt h.ro hk
  go_enter Tryd.func19, Tryd.ntmps19
  refine wp_seq_h ?_
  intro K0 HK0
  go_wp2_with fail
  apply HK0.out
  clear HK0
  revert h1 hxb hsz hg1
  generalize w.alloc (.cells #[.pointer (some ⟨b, 0, none⟩)] 35) = W
  intro h1 hxb hsz hg1
  obtain ⟨c0, c1, _⟩ := h1.x.cells
  refine wp_seq_k ?_
  intro K1 hK1
  refine wp_code (c := c19 [true, false]) (by kernel_rfl) (region1_any b w.heap.size s p _ _ _ rfl rfl rfl hxb c0 c1 ?_)
  intro a' w' hz hd hj h4 h5 hh hg
  have hgw := Lib.grownBy_trans hg1 hg
  have hN : NE B b s w w' p false Ts D O w.heap.size W.heap.size := ⟨⟨o, d, q, la, co, h1.kept hg, fun e => by have := ho _ e; omega, fun e => by have := ho _ e; omega⟩, gbn_cell hg hxb, by simp [World.cell?, hh], (bel_grow hgw h.bw (by simp)), by omega, by omega⟩
  have q0 := hj 0 (by omega)
  have q1 := hj 1 (by omega)
  have q2 := hj 2 (by omega)
  have e : (F19r b z w.heap.size W.heap.size p fun k => a'.tmps.getD k undef) = a' := FG_self hz hd ⟨toL_getD _ _ q0, toL_getD _ _ q1, toL_getD _ _ q2, toL_getD _ _ h4, toL_getD _ _ h5, trivial⟩
  clear hj q0 q1 q2 h4 h5 hz hd c0 c1 hh hxb h1 hsz
  have HN := Lib.hid fun a ha => n19_4 B b w.heap.size W.heap.size T hP hU z s p Ts D O w w' (NumPost B b s w p Ts D O) a ha hs hS hTs hN hT (fun _ _ h => h)
  have HK1 := Lib.hid hK1
  clear hK1 hN hT hP hU
  apply HK1.out
  clear HK1
  rw [← e]
  clear e
  generalize (fun k => a'.tmps.getD k undef) = u
  rw [F19r_lit, sg352_13, sg352_330]
  refine wp_seq_h ?_
  intro K2 HK2
  go_wp2_with fail
  apply HK2.out
  clear HK2
  refine wp_seq_h ?_
  intro K3 HK3
  go_wp2_with fail
  exact HK3.out _ _ (wp_code (c := c19 [true, true, true, true]) (by kernel_rfl) (HN.out _ (F19e_at _ _ _ _ _ rfl ⟨rfl, rfl, rfl, rfl, rfl, rfl, trivial⟩)))
set_option maxRecDepth 100000

noncomputable def b12 : Code := Tryd.f12.body.getD .skip
noncomputable def c12 (l : List Bool) : Code := goC l b12
def F12 (b : Nat) (z : Bool) (c : Nat)  : (Nat → Value) → Act := FG 157 [(0, .pointer (some ⟨b, 0, none⟩)), (1, .bool z), (4, .int .u8 c)]
theorem F12_lit (b : Nat) (z : Bool) (c : Nat)  (u : Nat → Value) : F12 b  z  c u = { tmps := List.toArray (.pointer (some ⟨b, 0, none⟩) :: .bool z :: u 2 :: u 3 :: .int .u8 c :: u 5 :: u 6 :: u 7 :: u 8 :: u 9 :: u 10 :: u 11 :: u 12 :: u 13 :: u 14 :: u 15 :: u 16 :: u 17 :: u 18 :: u 19 :: u 20 :: u 21 :: u 22 :: u 23 :: u 24 :: u 25 :: u 26 :: u 27 :: u 28 :: u 29 :: u 30 :: u 31 :: u 32 :: u 33 :: u 34 :: u 35 :: u 36 :: u 37 :: u 38 :: u 39 :: u 40 :: u 41 :: u 42 :: u 43 :: u 44 :: u 45 :: u 46 :: u 47 :: u 48 :: u 49 :: u 50 :: u 51 :: u 52 :: u 53 :: u 54 :: u 55 :: u 56 :: u 57 :: u 58 :: u 59 :: u 60 :: u 61 :: u 62 :: u 63 :: u 64 :: u 65 :: u 66 :: u 67 :: u 68 :: u 69 :: u 70 :: u 71 :: u 72 :: u 73 :: u 74 :: u 75 :: u 76 :: u 77 :: u 78 :: u 79 :: u 80 :: u 81 :: u 82 :: u 83 :: u 84 :: u 85 :: u 86 :: u 87 :: u 88 :: u 89 :: u 90 :: u 91 :: u 92 :: u 93 :: u 94 :: u 95 :: u 96 :: u 97 :: u 98 :: u 99 :: u 100 :: u 101 :: u 102 :: u 103 :: u 104 :: u 105 :: u 106 :: u 107 :: u 108 :: u 109 :: u 110 :: u 111 :: u 112 :: u 113 :: u 114 :: u 115 :: u 116 :: u 117 :: u 118 :: u 119 :: u 120 :: u 121 :: u 122 :: u 123 :: u 124 :: u 125 :: u 126 :: u 127 :: u 128 :: u 129 :: u 130 :: u 131 :: u 132 :: u 133 :: u 134 :: u 135 :: u 136 :: u 137 :: u 138 :: u 139 :: u 140 :: u 141 :: u 142 :: u 143 :: u 144 :: u 145 :: u 146 :: u 147 :: u 148 :: u 149 :: u 150 :: u 151 :: u 152 :: u 153 :: u 154 :: u 155 :: u 156 :: []), defers := [] } := by kernel_rfl
theorem F12_at (b : Nat) (z : Bool) (c : Nat)  {L : List Value} (hl : L.length = 157) (hn : NmOk L [(0, .pointer (some ⟨b, 0, none⟩)), (1, .bool z), (4, .int .u8 c)]) : (F12 b  z  c fun k => (Act.mk L.toArray []).tmps.getD k undef) = { tmps := L.toArray, defers := [] } := FG_at hl hn

/-- what token leaves -/
def TkPost (B b : Nat) (s : ByteArray) (w : World) (p : Nat) (T : List Tok) (D : List Int) (O : List (Bool × Int)) (e : Ending) (w' : World) : Prop :=
  e = .returned (.tuple #[]) ∧ ∃ p' op' T' D' O', LS B b s w' p' op' T' D' O' ∧ Below B w w' ∧ (p < p' ∨ op' = true) ∧ p ≤ p' ∧ p' ≤ s.size ∧ O'.length ≤ O.length + 2 ∧ D'.length ≤ D.length + 1 ∧
    ((T' = T ∧ op' = true) ∨ ∃ t : Tok, T' = T ++ [t] ∧ (t.k = 2 → ¬ hexS s p → Stt s p ∧ scanN s p = some p' ∧ t.f = numG (s.extract p p') (nB s p - p))) ∧
    (Stt s p → ¬ hexS s p → ∀ d, scanN s p = some d → p' = d ∧ op' = false ∧ D' = D ∧ ∃ t : Tok, T' = T ++ [t] ∧ t.k = 2)
theorem TkPost.of_tok {B b : Nat} {s : ByteArray} {w w1 : World} {p p1 : Nat} {T : List Tok} {D D1 : List Int} {O : List (Bool × Int)} {e : Ending} {w' : World} (h : TokPost B b s w1 p1 T D1 O e w') (hb : Below B w w1) (hp : p ≤ p1) (hD : D1.length ≤ D.length) (hn : ¬ Stt s p) : TkPost B b s w p T D O e w' := by
  obtain ⟨h1, p', op', T', D', O', h2, h3, h4, h5, h6, h7, h8, h9⟩ := h
  refine ⟨h1, p', op', T', D', O', h2, hb.trans h3, h4.imp (fun h => by omega) id, by omega, h6, h8, by omega, ?_, fun h => absurd h hn⟩
  rcases h7 with h7 | ⟨t, h7, h10⟩
  · exact .inl h7
  · exact .inr ⟨t, h7, fun h => absurd h h10⟩
theorem TkPost.of_num {B b : Nat} {s : ByteArray} {w w1 : World} {p : Nat} {T : List Tok} {D : List Int} {O : List (Bool × Int)} {e : Ending} {w' : World} (h : NumPost B b s w1 p T D O e w') (hb : Below B w w1) (hS : Stt s p) : TkPost B b s w p T D O e w' := by
  obtain ⟨h1, p', op', T', h2, h3, h4, h5, h6⟩ := h
  refine ⟨h1, p', op', T', D, O, h2, hb.trans h3, .inl h4, by omega, h5, by omega, by omega, ?_, fun _ hx d hd => ?_⟩
  · rcases h6 with ⟨h6, h7, _⟩ | ⟨t, h6, h7, h8, h9⟩
    · exact .inl ⟨h6, h7⟩
    · exact .inr ⟨t, h6, fun _ hx => ⟨hS, h9 hx⟩⟩
  · rcases h6 with ⟨h6, h7, h8⟩ | ⟨t, h6, h7, h8, h9⟩
    · rw [h8 hx] at hd; exact absurd hd (by simp)
    · rw [(h9 hx).1, Option.some.injEq] at hd
      exact ⟨hd, h8, rfl, t, h6, h7⟩
/-- what is known in token -/
structure TE (B b : Nat) (T : World → Prop) (s : ByteArray) (p : Nat) (Ts : List Tok) (D : List Int) (O : List (Bool × Int)) (z : Bool) (c : Nat) (w0 w : World) : Prop where
  hT : ∀ w w' : World, Below B w w' → T w → T w'
  hTB : ∀ w, T w → B ≤ w.heap.size
  hD : DecSaid T
  hU : PuSaid T
  hP : PfSaid T
  hE : ∀ w, T w → PunE w
  hs : s.size ≤ 100
  hp : p < s.size
  hTs : Ts.length ≤ 200
  hDs : D.length ≤ 200
  hOs : O.length ≤ 400
  hc : bt s p = c
  l : LS B b s w p false Ts D O
  be : Below B w0 w
  tw : T w
theorem LS.gbn {B b : Nat} {s : ByteArray} {w w' : World} {p : Nat} {op : Bool} {T : List Tok} {D : List Int} {O : List (Bool × Int)} (h : LS B b s w p op T D O) (hg : w.grownBy w' none) : LS B b s w' p op T D O := by
  obtain ⟨o, d, q, la, co, h⟩ := h
  exact ⟨o, d, q, la, co, h.kept hg⟩
theorem LS.bw {B b : Nat} {s : ByteArray} {w : World} {p : Nat} {op : Bool} {T : List Tok} {D : List Int} {O : List (Bool × Int)} (h : LS B b s w p op T D O) : B ≤ w.heap.size := by
  obtain ⟨o, d, q, la, co, h⟩ := h
  exact h.bw
theorem TE.gbn {B b : Nat} {T : World → Prop} {s : ByteArray} {p : Nat} {Ts : List Tok} {D : List Int} {O : List (Bool × Int)} {z : Bool} {c : Nat} {w0 w : World} (X : TE B b T s p Ts D O z c w0 w) {w' : World} (hg : w.grownBy w' none) : TE B b T s p Ts D O z c w0 w' :=
  have hB := bel_grow (B := B) hg X.l.bw (by simp)
  { X with l := X.l.gbn hg, be := X.be.trans hB, tw := X.hT _ _ hB X.tw }
theorem TE.drewN {B b : Nat} {T : World → Prop} {s : ByteArray} {p : Nat} {Ts : List Tok} {D : List Int} {O : List (Bool × Int)} {z : Bool} {c : Nat} {w0 w : World} (X : TE B b T s p Ts D O z c w0 w) (m : Nat) : TE B b T s p Ts D O z c w0 (w.drewN m) := X.gbn (gb_drewN (World.grownBy.refl _ _) m)
theorem end12 {Post : Ending → World → Prop} {a : Act} {w : World} (hd : a.defers = []) (h : Post (.returned (.tuple #[])) w) : bodyPost Tryd.prog Tryd.f12 Post .normal a w :=
  bodyPost_end (by simp [results, Tryd.results12]) hd h
theorem not_stt {s : ByteArray} {p c : Nat} (hc : bt s p = c) (h1 : dg (c : Int) = false) (h2 : c ≠ 46) : ¬ Stt s p := by
  unfold dg at h1
  have := of_decide_eq_false h1
  rintro (h | h) <;> omega

set_option maxHeartbeats 8000000 in
theorem n12_3 {B b : Nat} {T : World → Prop} {s : ByteArray} {p : Nat} {Ts : List Tok} {D : List Int} {O : List (Bool × Int)} {z : Bool} {c : Nat} {w0 w : World} (X : TE B b T s p Ts D O z c w0 w) (nb : Nat) (Post : Ending → World → Prop) (a : Act) (ha : (F12 b z c fun k => a.tmps.getD k undef) = a) (hQ : ∀ w', TkPost B b s w0 p Ts D O (.returned (.tuple #[])) w' → Post (.returned (.tuple #[])) w') (hns : ¬ Stt s p) (hcw : lt (s[p]'X.hp).toNat = true ∨ 128 ≤ ((s[p]'X.hp).toNat : Int) ∨ ((s[p]'X.hp).toNat : Int) = 92) :
    Code.wp Tryd.prog (c12 [true, true, true, false]) (Exit.inBlock nb (bodyPost Tryd.prog Tryd.f12 Post)) a w := by
  rw [← ha]
  clear ha
  generalize (fun k => a.tmps.getD k undef) = u
  conv => arg 2; whnf
  rw [F12_lit]
  have HQ := Lib.hid hQ
  clear hQ
  obtain ⟨o, d, q, la, co, h⟩ := X.l
  obtain ⟨c0, c1, c2, c3, c4, c5, c6, _, _⟩ := h.x.cells
  have f2 := h.x.free 2
  have hpp := X.hp
  obtain ⟨i0, hi, hz0, hz1, hz2⟩ := info_parts info31
  have HAD := Lib.hid (word_any B T X.hT X.hTB X.hD X.hU b h.bb s p o d false q la co w.drew X.hs X.hp (h.kept (gb_drewN (World.grownBy.refl _ _) 1)).x (X.drewN 1).tw hcw)
  have hTs := X.hTs
  have HH := Lib.hid h
  have HNS := Lib.hid hns
  have HX := Lib.hid X
  clear h hcw X hns
  go_wp2_with fail
  go_region_law (first
        | (refine step_append_lies _ (by rfl) _ _ _ (by rfl) B 31 i0 _ 9 56 Tryd.underlying27 hi hz0 hz1 hz2 rfl (by omega) o Ts.length _ (by rfl) P1.out ⟨w2.heap.size, 0, none⟩ 1 1 _ (by rfl) (by rfl) P2.out (by simp [Value.oneCell']) (by omega) (by unfold maxLen; omega) (by omega) P3.out (w2.heap.size + 1) (by simp) ?_; intro g2 cap2 w1 hown1 hgrow hat hlt; have HO1 := Lib.hid hown1; have HG1 := Lib.hid hgrow; have HA1 := Lib.hid hat; have hx2 := (P4.out _ hgrow).cells.2.2.1; have hf2 := (P4.out _ hgrow).free 2; clear hown1 hgrow hat)
        | (go_simp; go_at_call 18; refine HAD.out.mono ?_; rintro e w2 ⟨tx, p', op', rfl, hr1, hr2, hr3, hga0, hx0⟩; have hga : w.grownBy w2 (some b) := ⟨hga0.os, hga0.tape, hga0.output, hga0.size, hga0.block⟩; have HL2 := Lib.hid (HH.out.next hga hx0); have HGA := Lib.hid hga; have hnb2 : b < w2.heap.size := lt_of_block hx0; have c22 := hx0.cells.2.2.1; have ff2 := hx0.free 2; obtain ⟨p1, p2, p3, p4, p5⟩ := LV.pusho HL2.out ⟨1, tx, 0, z, false, false, false, 0, 0⟩; have P1 := Lib.hid p1; have P2 := Lib.hid p2; have P3 := Lib.hid p3; have P4 := Lib.hid p4; have P5 := Lib.hid p5; clear p1 p2 p3 p4 p5 hga hx0 hga0))
  all_goals
    obtain ⟨⟨V, hV, hL⟩, hB⟩ := P5.out _ _ _ HO1.out HG1.out HA1.out
    exact end12 rfl (HQ.out _ ⟨rfl, p', op', Ts ++ [⟨1, tx, 0, z, false, false, false, 0, 0⟩], D, O, ⟨_, _, _, _, _, hL⟩, HX.out.be.trans ((gb_below HGA.out HH.out.bb HH.out.bw).trans hB), hr1, hr2, hr3, by omega, by omega, .inr ⟨_, rfl, fun h => absurd h (by show ¬ (1 : Int) = 2; decide)⟩, fun h => absurd h HNS.out⟩)

set_option maxHeartbeats 2000000 in
theorem n12_5 {B b : Nat} {T : World → Prop} {s : ByteArray} {p : Nat} {Ts : List Tok} {D : List Int} {O : List (Bool × Int)} {z : Bool} {c : Nat} {w0 w : World} (X : TE B b T s p Ts D O z c w0 w) (nb : Nat) (Post : Ending → World → Prop) (a : Act) (ha : (F12 b z c fun k => a.tmps.getD k undef) = a) (hQ : ∀ w', TkPost B b s w0 p Ts D O (.returned (.tuple #[])) w' → Post (.returned (.tuple #[])) w') (hS : Stt s p) :
    Code.wp Tryd.prog (c12 [true, true, true, true, true, false]) (Exit.inBlock nb (bodyPost Tryd.prog Tryd.f12 Post)) a w := by
  rw [← ha]
  clear ha
  generalize (fun k => a.tmps.getD k undef) = u
  conv => arg 2; whnf
  rw [F12_lit]
  have HQ := Lib.hid hQ
  clear hQ
  have HC := Lib.hid (number_any B b T X.hP X.hU z s p Ts D O w X.hs hS X.hTs X.l fun w' hb => X.hT _ _ hb X.tw)
  have HX := Lib.hid X
  have HS := Lib.hid hS
  clear X hS
  go_wp2_with (go_at_call 19; refine HC.out.mono ?_; rintro e1 w1 h1; have H1 := Lib.hid h1; obtain ⟨rfl, _⟩ := h1)
  exact end12 rfl (HQ.out _ (TkPost.of_num H1.out HX.out.be HS.out))

set_option maxHeartbeats 2000000 in
theorem n12_7 {B b : Nat} {T : World → Prop} {s : ByteArray} {p : Nat} {Ts : List Tok} {D : List Int} {O : List (Bool × Int)} {z : Bool} {c : Nat} {w0 w : World} (X : TE B b T s p Ts D O z c w0 w) (nb : Nat) (Post : Ending → World → Prop) (a : Act) (ha : (F12 b z c fun k => a.tmps.getD k undef) = a) (hQ : ∀ w', TkPost B b s w0 p Ts D O (.returned (.tuple #[])) w' → Post (.returned (.tuple #[])) w') (hns : ¬ Stt s p) :
    Code.wp Tryd.prog (c12 [true, true, true, true, true, true, true, false]) (Exit.inBlock nb (bodyPost Tryd.prog Tryd.f12 Post)) a w := by
  rw [← ha]
  clear ha
  generalize (fun k => a.tmps.getD k undef) = u
  conv => arg 2; whnf
  rw [F12_lit]
  have HQ := Lib.hid hQ
  clear hQ
  have HC := Lib.hid (text_any B T X.hT X.hTB X.hD X.hU b s p false (c : Int) z Ts D O w X.hs X.hp X.hTs X.l X.tw)
  have HX := Lib.hid X
  have HS := Lib.hid hns
  clear X hns
  go_wp2_with (go_at_call 20; refine HC.out.mono ?_; rintro e1 w1 h1; have H1 := Lib.hid h1; obtain ⟨rfl, _⟩ := h1)
  exact end12 rfl (HQ.out _ (TkPost.of_tok H1.out HX.out.be (Nat.le_refl _) (Nat.le_refl _) HS.out))

set_option maxHeartbeats 2000000 in
theorem n12_1 {B b : Nat} {T : World → Prop} {s : ByteArray} {p : Nat} {Ts : List Tok} {D : List Int} {O : List (Bool × Int)} {z : Bool} {c : Nat} {w0 w : World} (X : TE B b T s p Ts D O z c w0 w) (nb : Nat) (Post : Ending → World → Prop) (a : Act) (ha : (F12 b z c fun k => a.tmps.getD k undef) = a) (hQ : ∀ w', TkPost B b s w0 p Ts D O (.returned (.tuple #[])) w' → Post (.returned (.tuple #[])) w') (hns : ¬ Stt s p) :
    Code.wp Tryd.prog (c12 [true, true, true, true, true, true, true, true, true, true, true, true]) (Exit.inBlock nb (bodyPost Tryd.prog Tryd.f12 Post)) a w := by
  rw [← ha]
  clear ha
  generalize (fun k => a.tmps.getD k undef) = u
  conv => arg 2; whnf
  rw [F12_lit]
  have HQ := Lib.hid hQ
  clear hQ
  have HC := Lib.hid (punct_any B b s p false z Ts D O w X.hs X.hp X.hTs X.hDs X.hOs X.l (X.hE _ X.tw))
  have HX := Lib.hid X
  have HS := Lib.hid hns
  clear X hns
  go_wp2_with (go_at_call 22; refine HC.out.mono ?_; rintro e1 w1 h1; have H1 := Lib.hid h1; obtain ⟨rfl, _⟩ := h1)
  exact end12 rfl (HQ.out _ (TkPost.of_tok H1.out HX.out.be (Nat.le_refl _) (Nat.le_refl _) HS.out))

set_option maxHeartbeats 2000000 in
theorem n12_9 {B b : Nat} {T : World → Prop} {s : ByteArray} {p : Nat} {Ts : List Tok} {D : List Int} {O : List (Bool × Int)} {z : Bool} {c : Nat} {w0 w : World} (X : TE B b T s p Ts D O z c w0 w) (nb : Nat) (Post : Ending → World → Prop) (a : Act) (ha : (F12 b z c fun k => a.tmps.getD k undef) = a) (hQ : ∀ w', TkPost B b s w0 p Ts D O (.returned (.tuple #[])) w' → Post (.returned (.tuple #[])) w') (hns : ¬ Stt s p) :
    Code.wp Tryd.prog (c12 [true, true, true, true, true, true, true, true, true, false]) (Exit.inBlock nb (bodyPost Tryd.prog Tryd.f12 Post)) a w := by
  rw [← ha]
  clear ha
  generalize (fun k => a.tmps.getD k undef) = u
  conv => arg 2; whnf
  rw [F12_lit]
  have HQ := Lib.hid hQ
  clear hQ
  obtain ⟨o, d, q, la, co, h⟩ := X.l
  obtain ⟨c0, c1, c2, c3, c4, c5, c6, _, _⟩ := h.x.cells
  have f1 := h.x.free 1
  have hpp := X.hp
  have hss := X.hs
  have u1 : IntKind.i64.wrap ((p : Int) + 1) = p + 1 := IntWalk.i64_in _ (by omega)
  have hl1 : LV B b s (w.setCell ⟨b, 1, none⟩ (.int .i64 ((p : Int) + 1))) (p + 1) false Ts D O o d q la co := h.next (gb_set (World.grownBy.refl _ _) _ _) (LX.set1 h.x _)
  have hB1 : Below B w (w.setCell ⟨b, 1, none⟩ (.int .i64 ((p : Int) + 1))) := (Below.refl B w).setCell h.bb _
  have HC := Lib.hid (piece_any B T X.hT X.hTB X.hD X.hU b s (p + 1) false true z Ts D O _ X.hs (by omega) X.hTs X.hDs X.hOs ⟨_, _, _, _, _, hl1⟩ (X.hT _ _ hB1 X.tw))
  have HX := Lib.hid X
  have HS := Lib.hid hns
  have HB1 := Lib.hid hB1
  clear X hns h hl1 hB1
  go_wp2_with (go_at_call 21; refine HC.out.mono ?_; rintro e1 w1 h1; have H1 := Lib.hid h1; obtain ⟨rfl, _⟩ := h1)
  exact end12 rfl (HQ.out _ (TkPost.of_tok H1.out (HX.out.be.trans HB1.out) (by omega) (Nat.le_refl _) HS.out))

set_option maxHeartbeats 2000000 in
theorem n12_12 {B b : Nat} {T : World → Prop} {s : ByteArray} {p : Nat} {Ts : List Tok} {D : List Int} {O : List (Bool × Int)} {z : Bool} {c : Nat} {w0 w : World} (X : TE B b T s p Ts D O z c w0 w) (nb : Nat) (Post : Ending → World → Prop) (a : Act) (ha : (F12 b z c fun k => a.tmps.getD k undef) = a) (hQ : ∀ w', TkPost B b s w0 p Ts D O (.returned (.tuple #[])) w' → Post (.returned (.tuple #[])) w') (hns : ¬ Stt s p) (D1 : List Int) (y : Int) (hD : D = D1 ++ [y]) :
    Code.wp Tryd.prog (c12 [true, true, true, true, true, true, true, true, true, true, true, false]) (Exit.inBlock nb (bodyPost Tryd.prog Tryd.f12 Post)) a w := by
  rw [← ha]
  clear ha
  generalize (fun k => a.tmps.getD k undef) = u
  conv => arg 2; whnf
  rw [F12_lit]
  have HQ := Lib.hid hQ
  clear hQ
  obtain ⟨o, d, q, la, co, h⟩ := X.l
  obtain ⟨g, cap, rfl, hBg, hgl⟩ := h.rd.form (by rw [hD]; simp)
  subst hD
  have h0 := h
  simp only [List.length_append, List.length_singleton] at h0
  obtain ⟨c0, c1, c2, c3, c4, c5, c6, _, _⟩ := h0.x.cells
  have hcap := own_cap h0.rd
  obtain ⟨n, hn⟩ : ∃ n, D1.length = n := ⟨_, rfl⟩
  have hcap1 : (n : Int) ≤ cap := by have := hcap.1; simp at this; omega
  rw [hn] at c3
  have hn200 : n ≤ 200 := by have := X.hDs; simp at this; omega
  have f1 := h0.x.free 1
  have f3 := h0.x.free 3
  have hpp := X.hp
  have hss := X.hs
  have u1 : IntKind.i64.wrap ((p : Int) + 1) = p + 1 := IntWalk.i64_in _ (by omega)
  have w1 : IntKind.i64.wrap (((n + 1 : Nat) : Int) - 1) = n := by rw [show ((n + 1 : Nat) : Int) - 1 = n by omega]; exact IntWalk.i64_in _ (by omega)
  have w1' : IntKind.i64.wrap ((n : Int) + 1 - 1) = n := by rw [show (n : Int) + 1 - 1 = n by omega]; exact IntWalk.i64_in _ (by omega)
  have w2 : IntKind.i64.wrap (n : Int) = n := IntWalk.i64_in _ (by omega)
  have b1 : (0 : Int) ≤ n := by omega
  have b2 : (n : Int) ≤ (n : Int) + 1 := by omega
  have hpop := LV.popd h0
  have hl1 : LV B b s ((w.setCell ⟨b, 3, none⟩ (.slice (some ⟨g, 0, none⟩) D1.length cap)).setCell ⟨b, 1, none⟩ (.int .i64 ((p : Int) + 1))) (p + 1) false Ts D1 O o (.slice (some ⟨g, 0, none⟩) D1.length cap) q la co := hpop.next (gb_set (World.grownBy.refl _ _) _ _) (LX.set1 hpop.x _)
  have hB1 : Below B w ((w.setCell ⟨b, 3, none⟩ (.slice (some ⟨g, 0, none⟩) D1.length cap)).setCell ⟨b, 1, none⟩ (.int .i64 ((p : Int) + 1))) := ((Below.refl B w).setCell h.bb _).setCell h.bb _
  have HC := Lib.hid fun m => (piece_any B T X.hT X.hTB X.hD X.hU b s (p + 1) false false z Ts D1 O _ X.hs (by omega) X.hTs (by omega) X.hOs ⟨_, _, _, _, _, hl1.kept (gb_drewN (World.grownBy.refl _ _) m)⟩ (X.hT _ _ (hB1.trans (bel_drewN B _ m)) X.tw))
  have HX := Lib.hid X
  have HS := Lib.hid hns
  have HB1 := Lib.hid hB1
  rw [hn] at HC HB1
  have c1' : (w.setCell ⟨b, 3, none⟩ (.slice (some ⟨g, 0, none⟩) n cap)).cell? ⟨b, 1, none⟩ = some (.int .i64 (p : Int)) := by have := hpop.x.cells.2.1; rwa [hn] at this
  have f1' : (w.setCell ⟨b, 3, none⟩ (.slice (some ⟨g, 0, none⟩) n cap)).frozen? ⟨b, 1, none⟩ = false := by have := hpop.x.free 1; rwa [hn] at this
  clear X hns h hl1 hB1 hpop h0 hcap
  go_wp2_with fail
  go_region_with (fail)
  all_goals
    go_wp2_with (go_at_call 21; refine (HC.out 1).mono ?_; rintro e1 w1 h1; have H1 := Lib.hid h1; obtain ⟨rfl, _⟩ := h1)
    exact end12 rfl (HQ.out _ (TkPost.of_tok H1.out (HX.out.be.trans (HB1.out.trans (bel_drewN B _ 1))) (by omega) (by simp) HS.out))

set_option maxHeartbeats 2000000 in
theorem n12_11 {B b : Nat} {T : World → Prop} {s : ByteArray} {p : Nat} {Ts : List Tok} {D : List Int} {O : List (Bool × Int)} {z : Bool} {c : Nat} {w0 w : World} (X : TE B b T s p Ts D O z c w0 w) (nb : Nat) (Post : Ending → World → Prop) (a : Act) (ha : (F12 b z c fun k => a.tmps.getD k undef) = a) (hQ : ∀ w', TkPost B b s w0 p Ts D O (.returned (.tuple #[])) w' → Post (.returned (.tuple #[])) w') (hns : ¬ Stt s p) :
    Code.wp Tryd.prog (c12 [true, true, true, true, true, true, true, true, true, true]) (Exit.inBlock nb (bodyPost Tryd.prog Tryd.f12 Post)) a w := by
  have B1 := Lib.hid fun (hc : ∃ D1 y, D = D1 ++ [y]) (m : Nat) (a' : Act) (ha' : (F12 b z c fun k => a'.tmps.getD k undef) = a') => n12_12 (X.drewN m) nb Post a' ha' hQ hns hc.choose hc.choose_spec.choose hc.choose_spec.choose_spec
  have B2 := Lib.hid fun (hc : True) (m : Nat) (a' : Act) (ha' : (F12 b z c fun k => a'.tmps.getD k undef) = a') => n12_1 (X.drewN m) nb Post a' ha' hQ hns
  rw [← ha]
  clear ha
  generalize (fun k => a.tmps.getD k undef) = u
  conv => arg 2; whnf
  rw [F12_lit]
  obtain ⟨o, d, q, la, co, h⟩ := X.l
  obtain ⟨c0, c1, c2, c3, c4, c5, c6, _, _⟩ := h.x.cells
  have hDs := X.hDs
  have hfo : ∃ g cap, d = .slice g D.length cap := slice_form h.rd
  have hkd : ∀ D1 y, D = D1 ++ [y] → ∃ g cap, d = .slice (some ⟨g, 0, none⟩) (D1.length + 1) cap ∧ w.cell? ⟨g, D1.length, none⟩ = some (.int .i64 y) := by
    rintro D1 y rfl
    obtain ⟨gd, dcap, e1, hBg, hgl⟩ := h.rd.form (by simp)
    refine ⟨gd, dcap, by rw [e1, List.length_append]; rfl, ?_⟩
    have e : (dcs (D1 ++ [y]))[D1.length]? = some (.int .i64 y) := by simp [dcs]
    have := h.rd.cells (g := gd) (by rw [e1]; rfl) _ _ e
    rwa [add_zero_at] at this
  clear h hQ
  refine wp_seq_h ?_
  intro K2 HK2
  by_cases h125 : c = 125
  · have g1 : ((c : Int) == 125) = true := by simp; omega
    clear h125
    rcases List.eq_nil_or_concat D with rfl | ⟨D1, y, rfl⟩
    · obtain ⟨g, cap, rfl⟩ := hfo
      go_quiet (fail)
      apply HK2.out
      clear HK2
      refine wp_cond (t := false) rfl ?_
      rw [if_neg (by decide)]
      exact wp_code (c := c12 [true, true, true, true, true, true, true, true, true, true, true, true]) (by kernel_rfl) (B2.out trivial _ _ (F12_at _ _ _ rfl ⟨rfl, rfl, rfl, trivial⟩))
    · simp only [List.concat_eq_append] at c3 B1 B2 hDs hkd
      obtain ⟨g, cap, rfl, kd⟩ := hkd D1 y rfl
      clear hkd hfo
      have hl2 : (D1 ++ [y]).length = D1.length + 1 := by simp
      rw [hl2] at hDs
      obtain ⟨nD, hnD⟩ : ∃ n, D1.length = n := ⟨_, rfl⟩
      rw [hnD] at c3 kd hDs
      clear hnD hl2
      have q1 : decide (((nD + 1 : Nat) : Int) > 0) = true := decide_eq_true (by omega)
      have q2 : IntKind.i64.wrap (((nD + 1 : Nat) : Int) - 1) = nD := by rw [show ((nD + 1 : Nat) : Int) - 1 = nD by omega]; exact IntWalk.i64_in _ (by omega)
      have q3 : (0 : Int) ≤ nD := by omega
      have q4 : (nD : Int) < ((nD + 1 : Nat) : Int) := by omega
      have q5 : (nD : Int) < (nD : Int) + 1 := by omega
      by_cases hy : y = 0
      · have q6 : (y == 0) = true := by simp; omega
        clear hy
        go_quiet (fail)
        apply HK2.out
        clear HK2
        refine wp_cond (t := true) rfl ?_
        rw [if_pos rfl]
        exact wp_code (c := c12 [true, true, true, true, true, true, true, true, true, true, true, false]) (by kernel_rfl) (B1.out ⟨D1, y, rfl⟩ _ _ (F12_at _ _ _ rfl ⟨rfl, rfl, rfl, trivial⟩))
      · have q6 : (y == 0) = false := by simp; omega
        clear hy
        go_quiet (fail)
        apply HK2.out
        clear HK2
        refine wp_cond (t := false) rfl ?_
        rw [if_neg (by decide)]
        exact wp_code (c := c12 [true, true, true, true, true, true, true, true, true, true, true, true]) (by kernel_rfl) (B2.out trivial _ _ (F12_at _ _ _ rfl ⟨rfl, rfl, rfl, trivial⟩))
  · have g1 : ((c : Int) == 125) = false := by simp; omega
    clear h125
    go_quiet (fail)
    apply HK2.out
    clear HK2
    refine wp_cond (t := false) rfl ?_
    rw [if_neg (by decide)]
    exact wp_code (c := c12 [true, true, true, true, true, true, true, true, true, true, true, true]) (by kernel_rfl) (B2.out trivial _ _ (F12_at _ _ _ rfl ⟨rfl, rfl, rfl, trivial⟩))

set_option maxHeartbeats 2000000 in
theorem n12_8 {B b : Nat} {T : World → Prop} {s : ByteArray} {p : Nat} {Ts : List Tok} {D : List Int} {O : List (Bool × Int)} {z : Bool} {c : Nat} {w0 w : World} (X : TE B b T s p Ts D O z c w0 w) (nb : Nat) (Post : Ending → World → Prop) (a : Act) (ha : (F12 b z c fun k => a.tmps.getD k undef) = a) (hQ : ∀ w', TkPost B b s w0 p Ts D O (.returned (.tuple #[])) w' → Post (.returned (.tuple #[])) w') (hns : ¬ Stt s p) :
    Code.wp Tryd.prog (c12 [true, true, true, true, true, true, true, true]) (Exit.inBlock nb (bodyPost Tryd.prog Tryd.f12 Post)) a w := by
  have B1 := Lib.hid fun (hc : True) (m : Nat) (a' : Act) (ha' : (F12 b z c fun k => a'.tmps.getD k undef) = a') => n12_9 (X.drewN m) nb Post a' ha' hQ hns
  have B2 := Lib.hid fun (hc : True) (m : Nat) (a' : Act) (ha' : (F12 b z c fun k => a'.tmps.getD k undef) = a') => n12_11 (X.drewN m) nb Post a' ha' hQ hns
  rw [← ha]
  clear ha
  generalize (fun k => a.tmps.getD k undef) = u
  conv => arg 2; whnf
  rw [F12_lit]
  obtain ⟨o, d, q, la, co, h⟩ := X.l
  obtain ⟨c0, c1, c2, c3, c4, c5, c6, _, _⟩ := h.x.cells
  clear h hQ
  refine wp_seq_h ?_
  intro K2 HK2
  by_cases h : c = 96
  · have g1 : ((c : Int) == 96) = true := by simp; omega
    clear h
    go_wp2_with fail
    apply HK2.out
    clear HK2
    refine wp_cond (t := true) rfl ?_
    rw [if_pos rfl]
    exact wp_code (c := c12 [true, true, true, true, true, true, true, true, true, false]) (by kernel_rfl) (B1.out trivial 0 _ (F12_at _ _ _ rfl ⟨rfl, rfl, rfl, trivial⟩))
  · have g1 : ((c : Int) == 96) = false := by simp; omega
    clear h
    go_wp2_with fail
    apply HK2.out
    clear HK2
    refine wp_cond (t := false) rfl ?_
    rw [if_neg (by decide)]
    exact wp_code (c := c12 [true, true, true, true, true, true, true, true, true, true]) (by kernel_rfl) (B2.out trivial 0 _ (F12_at _ _ _ rfl ⟨rfl, rfl, rfl, trivial⟩))

set_option maxHeartbeats 2000000 in
theorem n12_6 {B b : Nat} {T : World → Prop} {s : ByteArray} {p : Nat} {Ts : List Tok} {D : List Int} {O : List (Bool × Int)} {z : Bool} {c : Nat} {w0 w : World} (X : TE B b T s p Ts D O z c w0 w) (nb : Nat) (Post : Ending → World → Prop) (a : Act) (ha : (F12 b z c fun k => a.tmps.getD k undef) = a) (hQ : ∀ w', TkPost B b s w0 p Ts D O (.returned (.tuple #[])) w' → Post (.returned (.tuple #[])) w') (hns : ¬ Stt s p) :
    Code.wp Tryd.prog (c12 [true, true, true, true, true, true]) (Exit.inBlock nb (bodyPost Tryd.prog Tryd.f12 Post)) a w := by
  have B1 := Lib.hid fun (hc : True) (m : Nat) (a' : Act) (ha' : (F12 b z c fun k => a'.tmps.getD k undef) = a') => n12_7 (X.drewN m) nb Post a' ha' hQ hns
  have B2 := Lib.hid fun (hc : True) (m : Nat) (a' : Act) (ha' : (F12 b z c fun k => a'.tmps.getD k undef) = a') => n12_8 (X.drewN m) nb Post a' ha' hQ hns
  rw [← ha]
  clear ha
  generalize (fun k => a.tmps.getD k undef) = u
  conv => arg 2; whnf
  rw [F12_lit]
  obtain ⟨o, d, q, la, co, h⟩ := X.l
  obtain ⟨c0, c1, c2, c3, c4, c5, c6, _, _⟩ := h.x.cells
  clear h hQ
  refine wp_seq_h ?_
  intro K2 HK2
  by_cases h : c = 34
  · have g1 : ((c : Int) == 34) = true := by simp; omega
    clear h
    go_wp2_with fail
    apply HK2.out
    clear HK2
    refine wp_cond (t := true) rfl ?_
    rw [if_pos rfl]
    exact wp_code (c := c12 [true, true, true, true, true, true, true, false]) (by kernel_rfl) (B1.out trivial 0 _ (F12_at _ _ _ rfl ⟨rfl, rfl, rfl, trivial⟩))
  · have g1 : ((c : Int) == 34) = false := by simp; omega
    clear h
    by_cases h : c = 39
    · have g2 : ((c : Int) == 39) = true := by simp; omega
      clear h
      go_wp2_with fail
      apply HK2.out
      clear HK2
      refine wp_cond (t := true) rfl ?_
      rw [if_pos rfl]
      exact wp_code (c := c12 [true, true, true, true, true, true, true, false]) (by kernel_rfl) (B1.out trivial 0 _ (F12_at _ _ _ rfl ⟨rfl, rfl, rfl, trivial⟩))
    · have g2 : ((c : Int) == 39) = false := by simp; omega
      clear h
      go_wp2_with fail
      apply HK2.out
      clear HK2
      refine wp_cond (t := false) rfl ?_
      rw [if_neg (by decide)]
      exact wp_code (c := c12 [true, true, true, true, true, true, true, true]) (by kernel_rfl) (B2.out trivial 0 _ (F12_at _ _ _ rfl ⟨rfl, rfl, rfl, trivial⟩))

set_option maxHeartbeats 2000000 in
theorem n12_4 {B b : Nat} {T : World → Prop} {s : ByteArray} {p : Nat} {Ts : List Tok} {D : List Int} {O : List (Bool × Int)} {z : Bool} {c : Nat} {w0 w : World} (X : TE B b T s p Ts D O z c w0 w) (nb : Nat) (Post : Ending → World → Prop) (a : Act) (ha : (F12 b z c fun k => a.tmps.getD k undef) = a) (hQ : ∀ w', TkPost B b s w0 p Ts D O (.returned (.tuple #[])) w' → Post (.returned (.tuple #[])) w') :
    Code.wp Tryd.prog (c12 [true, true, true, true]) (Exit.inBlock nb (bodyPost Tryd.prog Tryd.f12 Post)) a w := by
  have B1 := Lib.hid fun (hc : Stt s p) (m : Nat) (a' : Act) (ha' : (F12 b z c fun k => a'.tmps.getD k undef) = a') => n12_5 (X.drewN m) nb Post a' ha' hQ hc
  have B2 := Lib.hid fun (hc : ¬ Stt s p) (m : Nat) (a' : Act) (ha' : (F12 b z c fun k => a'.tmps.getD k undef) = a') => n12_6 (X.drewN m) nb Post a' ha' hQ hc
  rw [← ha]
  clear ha
  generalize (fun k => a.tmps.getD k undef) = u
  conv => arg 2; whnf
  rw [F12_lit]
  obtain ⟨o, d, q, la, co, h⟩ := X.l
  obtain ⟨c0, c1, c2, c3, c4, c5, c6, _, _⟩ := h.x.cells
  clear h hQ
  refine wp_seq_h ?_
  intro K2 HK2
  have hcc := X.hc
  have hA := isDigit_any (c : Int)
  obtain ⟨x1, hx1⟩ : ∃ x, dg (c : Int) = x := ⟨_, rfl⟩
  rw [hx1] at hA
  have HA := Lib.hid hA
  have HX1 := Lib.hid hx1
  have HCC := Lib.hid hcc
  have hss := X.hs
  have hpp := X.hp
  clear hA hx1 hcc X
  cases x1
  · by_cases h46 : c = 46
    · have g1 : ((c : Int) == 46) = true := by simp; omega
      by_cases hlt : p + 1 < s.size
      · obtain ⟨w1, w2, w3, w4, w5⟩ := idx1 hss hlt
        obtain ⟨cc, hcc⟩ : ∃ cc : Nat, s[p + 1].toNat = cc := ⟨_, rfl⟩
        have hcb : bt s (p + 1) = cc := by rw [bt_eq hlt, hcc]
        have hA2 := isDigit_any (cc : Int)
        obtain ⟨x2, hx2⟩ : ∃ x, dg (cc : Int) = x := ⟨_, rfl⟩
        rw [hx2] at hA2
        have HA2 := Lib.hid hA2
        have HX2 := Lib.hid hx2
        have HCB := Lib.hid hcb
        have H46 := Lib.hid h46
        clear hA2 hx2 hcb h46
        cases x2
        · have hn : Hid (¬ Stt s p) := Lib.hid (by
            have e := HX2.out
            unfold dg at e
            have := of_decide_eq_false e
            have e1 := HCC.out
            have e2 := HCB.out
            have e3 := H46.out
            rintro (h | h) <;> omega)
          go_quiet (first | (go_at_call 8; exact (HA.out _).mono fun _ _ h => ⟨h.1, _, h.2⟩) | (go_at_call 8; exact (HA2.out _).mono fun _ _ h => ⟨h.1, _, h.2⟩))
          apply HK2.out
          clear HK2
          refine wp_cond (t := false) rfl ?_
          rw [if_neg (by decide)]
          exact wp_code (c := c12 [true, true, true, true, true, true]) (by kernel_rfl) (B2.out hn.out _ _ (F12_at _ _ _ rfl ⟨rfl, rfl, rfl, trivial⟩))
        · have hn : Hid (Stt s p) := Lib.hid (by
            have e := HX2.out
            unfold dg at e
            have := of_decide_eq_true e
            have e1 := HCC.out
            have e2 := HCB.out
            have e3 := H46.out
            exact .inr (by omega))
          go_quiet (first | (go_at_call 8; exact (HA.out _).mono fun _ _ h => ⟨h.1, _, h.2⟩) | (go_at_call 8; exact (HA2.out _).mono fun _ _ h => ⟨h.1, _, h.2⟩))
          apply HK2.out
          clear HK2
          refine wp_cond (t := true) rfl ?_
          rw [if_pos rfl]
          exact wp_code (c := c12 [true, true, true, true, true, false]) (by kernel_rfl) (B1.out hn.out _ _ (F12_at _ _ _ rfl ⟨rfl, rfl, rfl, trivial⟩))
      · have w1 : decide ((p : Int) + 1 < s.size) = false := by simpa using (by omega)
        have w5 : IntKind.i64.wrap ((p : Int) + 1) = p + 1 := IntWalk.i64_in _ (by omega)
        have hn : Hid (¬ Stt s p) := Lib.hid (by
          have e1 := HCC.out
          have e2 := bt_out (s := s) (i := p + 1) (by omega)
          rintro (h | h) <;> omega)
        clear h46 hlt
        go_quiet ((go_at_call 8; exact (HA.out _).mono fun _ _ h => ⟨h.1, _, h.2⟩))
        apply HK2.out
        clear HK2
        refine wp_cond (t := false) rfl ?_
        rw [if_neg (by decide)]
        exact wp_code (c := c12 [true, true, true, true, true, true]) (by kernel_rfl) (B2.out hn.out _ _ (F12_at _ _ _ rfl ⟨rfl, rfl, rfl, trivial⟩))
    · have g1 : ((c : Int) == 46) = false := by simp; omega
      have hn : Hid (¬ Stt s p) := Lib.hid (not_stt HCC.out HX1.out h46)
      clear h46
      go_quiet ((go_at_call 8; exact (HA.out _).mono fun _ _ h => ⟨h.1, _, h.2⟩))
      apply HK2.out
      clear HK2
      refine wp_cond (t := false) rfl ?_
      rw [if_neg (by decide)]
      exact wp_code (c := c12 [true, true, true, true, true, true]) (by kernel_rfl) (B2.out hn.out _ _ (F12_at _ _ _ rfl ⟨rfl, rfl, rfl, trivial⟩))
  · have hn : Hid (Stt s p) := Lib.hid (by
      have e := HX1.out
      unfold dg at e
      have := of_decide_eq_true e
      have e1 := HCC.out
      exact .inl (by omega))
    go_quiet ((go_at_call 8; exact (HA.out _).mono fun _ _ h => ⟨h.1, _, h.2⟩))
    apply HK2.out
    clear HK2
    refine wp_cond (t := true) rfl ?_
    rw [if_pos rfl]
    exact wp_code (c := c12 [true, true, true, true, true, false]) (by kernel_rfl) (B1.out hn.out _ _ (F12_at _ _ _ rfl ⟨rfl, rfl, rfl, trivial⟩))

set_option maxHeartbeats 2000000 in
theorem n12_2 {B b : Nat} {T : World → Prop} {s : ByteArray} {p : Nat} {Ts : List Tok} {D : List Int} {O : List (Bool × Int)} {z : Bool} {c : Nat} {w0 w : World} (X : TE B b T s p Ts D O z c w0 w) (nb : Nat) (Post : Ending → World → Prop) (a : Act) (ha : (F12 b z c fun k => a.tmps.getD k undef) = a) (hQ : ∀ w', TkPost B b s w0 p Ts D O (.returned (.tuple #[])) w' → Post (.returned (.tuple #[])) w') :
    Code.wp Tryd.prog (c12 [true, true]) (Exit.inBlock nb (bodyPost Tryd.prog Tryd.f12 Post)) a w := by
  have B1 := Lib.hid fun (hc : ¬ Stt s p ∧ (lt ((s[p]'X.hp).toNat : Int) = true ∨ 128 ≤ ((s[p]'X.hp).toNat : Int) ∨ ((s[p]'X.hp).toNat : Int) = 92)) (m : Nat) (a' : Act) (ha' : (F12 b z c fun k => a'.tmps.getD k undef) = a') => n12_3 (X.drewN m) nb Post a' ha' hQ hc.1 hc.2
  have B2 := Lib.hid fun (hc : True) (m : Nat) (a' : Act) (ha' : (F12 b z c fun k => a'.tmps.getD k undef) = a') => n12_4 (X.drewN m) nb Post a' ha' hQ 
  rw [← ha]
  clear ha
  generalize (fun k => a.tmps.getD k undef) = u
  conv => arg 2; whnf
  rw [F12_lit]
  obtain ⟨o, d, q, la, co, h⟩ := X.l
  obtain ⟨c0, c1, c2, c3, c4, c5, c6, _, _⟩ := h.x.cells
  clear h hQ
  refine wp_seq_h ?_
  intro K2 HK2
  have hcc := X.hc
  rw [bt_eq X.hp] at hcc
  have hA := isLetter_any (c : Int)
  obtain ⟨x1, hx1⟩ : ∃ x, lt (c : Int) = x := ⟨_, rfl⟩
  rw [hx1] at hA
  have HA := Lib.hid hA
  have hst : Hid (lt (c : Int) = true ∨ 128 ≤ (c : Int) ∨ (c : Int) = 92 → ¬ Stt s p) := Lib.hid (by
    have e1 := X.hc
    intro h
    have : (97 ≤ c ∧ c ≤ 122) ∨ (65 ≤ c ∧ c ≤ 90) ∨ c = 95 ∨ c = 36 ∨ 128 ≤ c ∨ c = 92 := by
      rcases h with h | h | h
      · unfold lt at h
        have := of_decide_eq_true h
        omega
      · omega
      · omega
    rintro (h | h) <;> omega)
  rw [hcc] at B1
  have HX1 := Lib.hid hx1
  clear hA hx1 hcc X
  cases x1
  · by_cases h128 : 128 ≤ c
    · have g1 : decide ((c : Int) ≥ 128) = true := decide_eq_true (by omega)
      have hw : Hid (lt (c : Int) = true ∨ 128 ≤ (c : Int) ∨ (c : Int) = 92) := Lib.hid (.inr (.inl (by omega)))
      clear h128
      go_wp2_with (go_at_call 17; refine (HA.out _).mono ?_; rintro e1 w1 ⟨rfl, rfl⟩)
      apply HK2.out
      clear HK2
      refine wp_cond (t := true) rfl ?_
      rw [if_pos rfl]
      exact wp_code (c := c12 [true, true, true, false]) (by kernel_rfl) (B1.out ⟨hst.out hw.out, hw.out⟩ 0 _ (F12_at _ _ _ rfl ⟨rfl, rfl, rfl, trivial⟩))
    · have g1 : decide ((c : Int) ≥ 128) = false := decide_eq_false (by omega)
      by_cases h92 : c = 92
      · have g2 : ((c : Int) == 92) = true := by simp; omega
        have hw : Hid (lt (c : Int) = true ∨ 128 ≤ (c : Int) ∨ (c : Int) = 92) := Lib.hid (.inr (.inr (by omega)))
        clear h128 h92
        go_wp2_with (go_at_call 17; refine (HA.out _).mono ?_; rintro e1 w1 ⟨rfl, rfl⟩)
        apply HK2.out
        clear HK2
        refine wp_cond (t := true) rfl ?_
        rw [if_pos rfl]
        exact wp_code (c := c12 [true, true, true, false]) (by kernel_rfl) (B1.out ⟨hst.out hw.out, hw.out⟩ 0 _ (F12_at _ _ _ rfl ⟨rfl, rfl, rfl, trivial⟩))
      · have g2 : ((c : Int) == 92) = false := by simp; omega
        clear h128 h92
        go_wp2_with (go_at_call 17; refine (HA.out _).mono ?_; rintro e1 w1 ⟨rfl, rfl⟩)
        apply HK2.out
        clear HK2
        refine wp_cond (t := false) rfl ?_
        rw [if_neg (by decide)]
        exact wp_code (c := c12 [true, true, true, true]) (by kernel_rfl) (B2.out trivial 0 _ (F12_at _ _ _ rfl ⟨rfl, rfl, rfl, trivial⟩))
  · have hw : Hid (lt (c : Int) = true ∨ 128 ≤ (c : Int) ∨ (c : Int) = 92) := Lib.hid (.inl HX1.out)
    go_wp2_with (go_at_call 17; refine (HA.out _).mono ?_; rintro e1 w1 ⟨rfl, rfl⟩)
    apply HK2.out
    clear HK2
    refine wp_cond (t := true) rfl ?_
    rw [if_pos rfl]
    exact wp_code (c := c12 [true, true, true, false]) (by kernel_rfl) (B1.out ⟨hst.out hw.out, hw.out⟩ 0 _ (F12_at _ _ _ rfl ⟨rfl, rfl, rfl, trivial⟩))

set_option maxHeartbeats 2000000 in
theorem token_any {B b : Nat} {T : World → Prop} {s : ByteArray} {p : Nat} {Ts : List Tok} {D : List Int} {O : List (Bool × Int)} {z : Bool} {c : Nat} {w0 w : World} (X : TE B b T s p Ts D O z c w0 w) : Calls Tryd.prog 12 #[.pointer (some ⟨b, 0, none⟩), .bool z] w (TkPost B b s w0 p Ts D O) := by
  obtain ⟨o, d, q, la, co, h⟩ := X.l
  obtain ⟨c0, c1, c2, c3, c4, c5, c6, _, _⟩ := h.x.cells
  have hcc := X.hc
  rw [bt_eq X.hp] at hcc
  have hpp : (p : Int) < s.size := by have := X.hp; omega
  have HX := Lib.hid X
  clear h
  go_enter Tryd.func12, Tryd.ntmps12
  refine wp_seq_h ?_
  intro K HK
  go_quiet (fail)
  apply HK.out
  clear HK
  refine wp_block ?_
  refine wp_code (c := c12 [true, true]) (by kernel_rfl) (n12_2 (HX.out.drewN _) _ _ _ (F12_at _ _ _ rfl ⟨rfl, rfl, rfl, trivial⟩) fun _ h => h)
set_option maxRecDepth 100000

noncomputable def b7 : Code := Tryd.f7.body.getD .skip
noncomputable def c7 (l : List Bool) : Code := goC l b7
/-- what each operation lays -/
def exS (b g n cap : Nat) (p d : Nat) : Nat → Option (Nat × Value)
  | 0 => some (83, .pointer (some ⟨b, 0, none⟩))
  | 1 => some (84, .pointer (some ⟨b, 0, none⟩))
  | 2 => some (85, .pointer (some ⟨b, 2, none⟩))
  | 3 => some (86, .slice (some ⟨g, 0, none⟩) (n + 1) cap)
  | 4 => some (87, .int .i64 n)
  | 5 => some (88, .pointer (some ⟨b, 0, none⟩))
  | 6 => some (89, .pointer (some ⟨b, 0, none⟩))
  | 7 => some (90, .pointer (some ⟨b, 2, none⟩))
  | 8 => some (91, .slice (some ⟨g, 0, none⟩) (n + 1) cap)
  | 9 => some (92, .int .i64 n)
  | 10 => some (93, .int .i64 p)
  | 11 => some (94, .pointer (some ⟨b, 0, none⟩))
  | 12 => some (95, .pointer (some ⟨b, 0, none⟩))
  | 13 => some (96, .pointer (some ⟨b, 1, none⟩))
  | 14 => some (97, .int .i64 d)
  | 15 => some (98, .pointer (some ⟨g, n * 9, none⟩))
  | 16 => some (99, .pointer (some ⟨g, n * 9 + 7, none⟩))
  | 18 => some (100, .pointer (some ⟨g, n * 9, none⟩))
  | 19 => some (101, .pointer (some ⟨g, n * 9 + 8, none⟩))
  | _ => none
theorem exS_slot {b g n cap p d i : Nat} {x : Nat × Value} (h : exS b g n cap p d i = some x) : (i ≤ 16 ∧ x.1 = 83 + i) ∨ (18 ≤ i ∧ i ≤ 19 ∧ x.1 = 82 + i) := by
  unfold exS at h
  split at h <;> simp at h <;> subst h <;> simp
structure WorldS (B b : Nat) (s : ByteArray) (w0 : World) (p d : Nat) (op : Bool) (Ts : List Tok) (t : Tok) (D : List Int) (O : List (Bool × Int)) (dd q : Value) (la co : Bool) (g cap : Nat) (w : World) (L : Array Bool) : Prop where
  l : LV B b s w d op (Ts ++ [{ t with fr := if L.getD 17 false = true then (p : Int) else t.fr, too := if L.getD 20 false = true then (d : Int) else t.too }]) D O (.slice (some ⟨g, 0, none⟩) (Ts.length + 1) cap) dd q la co
  be : Below B w0 w
variable {B b : Nat} {s : ByteArray} {w0 w : World} {p d : Nat} {op : Bool} {Ts : List Tok} {t : Tok} {D : List Int} {O : List (Bool × Int)} {dd q : Value} {la co : Bool} {g cap : Nat} {L : Array Bool}
theorem WorldS.same (h : WorldS B b s w0 p d op Ts t D O dd q la co g cap w L) (hL : L.size = 21) (i : Nat) (hi : i < 21) (h8 : 17 ≠ i) (h9 : 20 ≠ i) : WorldS B b s w0 p d op Ts t D O dd q la co g cap w (L.setIfInBounds i true) := by
  refine ⟨?_, h.be⟩
  simp only [lset_getG hL i hi, if_neg h8, if_neg h9]
  exact h.l
theorem WorldS.set17 (h : WorldS B b s w0 p d op Ts t D O dd q la co g cap w L) (hL : L.size = 21) (_ : L.getD 17 false = false) : WorldS B b s w0 p d op Ts t D O dd q la co g cap (w.setCell ⟨g, Ts.length * 9 + 7, none⟩ (.int .i64 p)) (L.setIfInBounds 17 true) := by
  refine ⟨?_, h.be.setCell (own_B h.l.ro g rfl) _⟩
  simp only [lset_getG hL 17 (by omega), if_neg (show ¬ 20 = 17 by omega)]
  exact h.l.setfr _
theorem WorldS.set20 (h : WorldS B b s w0 p d op Ts t D O dd q la co g cap w L) (hL : L.size = 21) (_ : L.getD 20 false = false) : WorldS B b s w0 p d op Ts t D O dd q la co g cap (w.setCell ⟨g, Ts.length * 9 + 8, none⟩ (.int .i64 d)) (L.setIfInBounds 20 true) := by
  refine ⟨?_, h.be.setCell (own_B h.l.ro g rfl) _⟩
  simp only [lset_getG hL 20 (by omega), if_neg (show ¬ 17 = 20 by omega)]
  exact h.l.setto _
theorem WorldS.cell (h : WorldS B b s w0 p d op Ts t D O dd q la co g cap w L) (j : Nat) (hj : j < 9) : ∃ v, w.cell? ⟨g, Ts.length * 9 + j, none⟩ = some v := by
  generalize hx : ({ t with fr := if L.getD 17 false = true then (p : Int) else t.fr, too := if L.getD 20 false = true then (d : Int) else t.too } : Tok) = x
  have hl := h.l
  rw [hx] at hl
  have hs : ∃ u, x.cells[j]? = some u := ⟨x.cells[j]'(by simpa [Tok.cells] using hj), List.getElem?_eq_getElem _⟩
  obtain ⟨u, hu⟩ := hs
  have e := tcells_at Ts x j hj
  rw [hu] at e
  have := hl.ro.cells (g := g) rfl _ _ e
  rw [add_zero_at] at this
  exact ⟨u, this⟩

set_option maxHeartbeats 2000000 in
theorem region14_any (a0 : Act) (Q : Exit → Act → World → Prop) (hz : a0.tmps.size = 102) (hd : a0.defers = [])
    (h6 : a0.tmps.getD 6 undef = .pointer (some ⟨b, 0, none⟩)) (h9 : a0.tmps.getD 9 undef = .int .i64 p) (h10 : a0.tmps.getD 10 undef = .int .i64 Ts.length)
    (hl : LV B b s w0 d op (Ts ++ [t]) D O (.slice (some ⟨g, 0, none⟩) (Ts.length + 1) cap) dd q la co)
    (hfin : ∀ (a' : Act) (w' : World), a'.tmps.size = 102 → a'.defers = [] → (∀ j, j < 83 → a'.tmps.getD j undef = a0.tmps.getD j undef) →
      LS B b s w' d op (Ts ++ [{ t with fr := (p : Int), too := (d : Int) }]) D O → Below B w0 w' → Q .normal a' w') :
    Code.wp Tryd.prog (c7 [true, true, true, false, true, true, true, true, true, true, true, true, true, true, false]) Q a0 w0 := by
  have z0 : (0 : Int) ≤ Ts.length := by omega
  have z1 : (Ts.length : Int) < (Ts.length : Int) + 1 := by omega
  conv => arg 2; whnf
  refine wp_region_inv (by kernel_rfl) (fun L a w => L.size = 21 ∧ SlotG 21 102 83 101 (exS b g Ts.length cap p d) L a0 a ∧ WorldS B b s w0 p d op Ts t D O dd q la co g cap w L) ?_ ?_ ?_ ?_
  · refine ⟨by simp, ⟨hd, hz, fun _ _ => rfl, fun i x hi hl _ => absurd hl (repF _ i)⟩, ⟨?_, bel_drewN B w0 1⟩⟩
    simp only [if_neg (repF _ _)]
    exact hl.kept (gb_drewN (World.grownBy.refl _ _) 1)
  · intro i o ho
    have hi : i < 21 := by
      have := (Array.getElem?_eq_some_iff.1 ho).1
      simpa using this
    have hcases : i = 0 ∨ i = 1 ∨ i = 2 ∨ i = 3 ∨ i = 4 ∨ i = 5 ∨ i = 6 ∨ i = 7 ∨ i = 8 ∨ i = 9 ∨ i = 10 ∨ i = 11 ∨ i = 12 ∨ i = 13 ∨ i = 14 ∨ i = 15 ∨ i = 16 ∨ i = 17 ∨ i = 18 ∨ i = 19 ∨ i = 20 := by omega
    rcases hcases with rfl | rfl | rfl | rfl | rfl | rfl | rfl | rfl | rfl | rfl | rfl | rfl | rfl | rfl | rfl | rfl | rfl | rfl | rfl | rfl | rfl
    all_goals
      injection ho with ho
      subst ho
      decide +kernel
  · intro L a w i oo hLs hoo hl hdep ⟨hL, hA, hW⟩ K hK
    have hi : i < 21 := by
      have := (Array.getElem?_eq_some_iff.1 hoo).1
      simpa using this
    have hcases : i = 0 ∨ i = 1 ∨ i = 2 ∨ i = 3 ∨ i = 4 ∨ i = 5 ∨ i = 6 ∨ i = 7 ∨ i = 8 ∨ i = 9 ∨ i = 10 ∨ i = 11 ∨ i = 12 ∨ i = 13 ∨ i = 14 ∨ i = 15 ∨ i = 16 ∨ i = 17 ∨ i = 18 ∨ i = 19 ∨ i = 20 := by omega
    rcases hcases with rfl | rfl | rfl | rfl | rfl | rfl | rfl | rfl | rfl | rfl | rfl | rfl | rfl | rfl | rfl | rfl | rfl | rfl | rfl | rfl | rfl
    · injection hoo with hoo
      subst hoo
      rw [if_pos (by rfl)]
      have r6 := (hA.far 6 (by omega)).trans h6
      unfold Oper.wp
      simp [execOp, go_sem, r6]
      exact hK _ _ ⟨by simpa using hL, hA.put hL 0 (by omega) (83, _) rfl (by omega) (by omega) (by omega) (fun _ _ _ _ => rfl) (fun k y h1 h2 => by have := exS_slot h2; show y.1 ≠ 83; omega), hW.same hL 0 (by omega) (by omega) (by omega)⟩
    · injection hoo with hoo
      subst hoo
      rw [if_pos (by rfl)]
      have q83 : a.tmps.getD 83 undef = .pointer (some ⟨b, 0, none⟩) := hA.at_ 0 (83, _) (by omega) (hdep { on := 0, ground := .data } (by simp) rfl) rfl
      unfold Oper.wp
      simp [execOp, go_sem, q83]
      exact hK _ _ ⟨by simpa using hL, hA.put hL 1 (by omega) (84, _) rfl (by omega) (by omega) (by omega) (fun _ _ _ _ => rfl) (fun k y h1 h2 => by have := exS_slot h2; show y.1 ≠ 84; omega), hW.same hL 1 (by omega) (by omega) (by omega)⟩
    · injection hoo with hoo
      subst hoo
      rw [if_pos (by rfl)]
      have q84 : a.tmps.getD 84 undef = .pointer (some ⟨b, 0, none⟩) := hA.at_ 1 (84, _) (by omega) (hdep { on := 1, ground := .data } (by simp) rfl) rfl
      unfold Oper.wp
      simp [execOp, go_sem, q84]
      exact hK _ _ ⟨by simpa using hL, hA.put hL 2 (by omega) (85, _) rfl (by omega) (by omega) (by omega) (fun _ _ _ _ => rfl) (fun k y h1 h2 => by have := exS_slot h2; show y.1 ≠ 85; omega), hW.same hL 2 (by omega) (by omega) (by omega)⟩
    · injection hoo with hoo
      subst hoo
      rw [if_pos (by rfl)]
      have q85 : a.tmps.getD 85 undef = .pointer (some ⟨b, 2, none⟩) := hA.at_ 2 (85, _) (by omega) (hdep { on := 2, ground := .data } (by simp) rfl) rfl
      obtain ⟨k0, k1, k2, _⟩ := hW.l.x.cells
      unfold Oper.wp
      simp [execOp, go_sem, q85, k2]
      exact hK _ _ ⟨by simpa using hL, hA.put hL 3 (by omega) (86, _) rfl (by omega) (by omega) (by omega) (fun _ _ _ _ => rfl) (fun k y h1 h2 => by have := exS_slot h2; show y.1 ≠ 86; omega), hW.same hL 3 (by omega) (by omega) (by omega)⟩
    · injection hoo with hoo
      subst hoo
      rw [if_pos (by rfl)]
      have r10 := (hA.far 10 (by omega)).trans h10
      unfold Oper.wp
      simp [execOp, go_sem, r10]
      exact hK _ _ ⟨by simpa using hL, hA.put hL 4 (by omega) (87, _) rfl (by omega) (by omega) (by omega) (fun _ _ _ _ => rfl) (fun k y h1 h2 => by have := exS_slot h2; show y.1 ≠ 87; omega), hW.same hL 4 (by omega) (by omega) (by omega)⟩
    · injection hoo with hoo
      subst hoo
      rw [if_pos (by rfl)]
      have r6 := (hA.far 6 (by omega)).trans h6
      unfold Oper.wp
      simp [execOp, go_sem, r6]
      exact hK _ _ ⟨by simpa using hL, hA.put hL 5 (by omega) (88, _) rfl (by omega) (by omega) (by omega) (fun _ _ _ _ => rfl) (fun k y h1 h2 => by have := exS_slot h2; show y.1 ≠ 88; omega), hW.same hL 5 (by omega) (by omega) (by omega)⟩
    · injection hoo with hoo
      subst hoo
      rw [if_pos (by rfl)]
      have q88 : a.tmps.getD 88 undef = .pointer (some ⟨b, 0, none⟩) := hA.at_ 5 (88, _) (by omega) (hdep { on := 5, ground := .data } (by simp) rfl) rfl
      unfold Oper.wp
      simp [execOp, go_sem, q88]
      exact hK _ _ ⟨by simpa using hL, hA.put hL 6 (by omega) (89, _) rfl (by omega) (by omega) (by omega) (fun _ _ _ _ => rfl) (fun k y h1 h2 => by have := exS_slot h2; show y.1 ≠ 89; omega), hW.same hL 6 (by omega) (by omega) (by omega)⟩
    · injection hoo with hoo
      subst hoo
      rw [if_pos (by rfl)]
      have q89 : a.tmps.getD 89 undef = .pointer (some ⟨b, 0, none⟩) := hA.at_ 6 (89, _) (by omega) (hdep { on := 6, ground := .data } (by simp) rfl) rfl
      unfold Oper.wp
      simp [execOp, go_sem, q89]
      exact hK _ _ ⟨by simpa using hL, hA.put hL 7 (by omega) (90, _) rfl (by omega) (by omega) (by omega) (fun _ _ _ _ => rfl) (fun k y h1 h2 => by have := exS_slot h2; show y.1 ≠ 90; omega), hW.same hL 7 (by omega) (by omega) (by omega)⟩
    · injection hoo with hoo
      subst hoo
      rw [if_pos (by rfl)]
      have q90 : a.tmps.getD 90 undef = .pointer (some ⟨b, 2, none⟩) := hA.at_ 7 (90, _) (by omega) (hdep { on := 7, ground := .data } (by simp) rfl) rfl
      obtain ⟨k0, k1, k2, _⟩ := hW.l.x.cells
      unfold Oper.wp
      simp [execOp, go_sem, q90, k2]
      exact hK _ _ ⟨by simpa using hL, hA.put hL 8 (by omega) (91, _) rfl (by omega) (by omega) (by omega) (fun _ _ _ _ => rfl) (fun k y h1 h2 => by have := exS_slot h2; show y.1 ≠ 91; omega), hW.same hL 8 (by omega) (by omega) (by omega)⟩
    · injection hoo with hoo
      subst hoo
      rw [if_pos (by rfl)]
      have r10 := (hA.far 10 (by omega)).trans h10
      unfold Oper.wp
      simp [execOp, go_sem, r10]
      exact hK _ _ ⟨by simpa using hL, hA.put hL 9 (by omega) (92, _) rfl (by omega) (by omega) (by omega) (fun _ _ _ _ => rfl) (fun k y h1 h2 => by have := exS_slot h2; show y.1 ≠ 92; omega), hW.same hL 9 (by omega) (by omega) (by omega)⟩
    · injection hoo with hoo
      subst hoo
      rw [if_pos (by rfl)]
      have r9 := (hA.far 9 (by omega)).trans h9
      unfold Oper.wp
      simp [execOp, go_sem, r9]
      exact hK _ _ ⟨by simpa using hL, hA.put hL 10 (by omega) (93, _) rfl (by omega) (by omega) (by omega) (fun _ _ _ _ => rfl) (fun k y h1 h2 => by have := exS_slot h2; show y.1 ≠ 93; omega), hW.same hL 10 (by omega) (by omega) (by omega)⟩
    · injection hoo with hoo
      subst hoo
      rw [if_pos (by rfl)]
      have r6 := (hA.far 6 (by omega)).trans h6
      unfold Oper.wp
      simp [execOp, go_sem, r6]
      exact hK _ _ ⟨by simpa using hL, hA.put hL 11 (by omega) (94, _) rfl (by omega) (by omega) (by omega) (fun _ _ _ _ => rfl) (fun k y h1 h2 => by have := exS_slot h2; show y.1 ≠ 94; omega), hW.same hL 11 (by omega) (by omega) (by omega)⟩
    · injection hoo with hoo
      subst hoo
      rw [if_pos (by rfl)]
      have q94 : a.tmps.getD 94 undef = .pointer (some ⟨b, 0, none⟩) := hA.at_ 11 (94, _) (by omega) (hdep { on := 11, ground := .data } (by simp) rfl) rfl
      unfold Oper.wp
      simp [execOp, go_sem, q94]
      exact hK _ _ ⟨by simpa using hL, hA.put hL 12 (by omega) (95, _) rfl (by omega) (by omega) (by omega) (fun _ _ _ _ => rfl) (fun k y h1 h2 => by have := exS_slot h2; show y.1 ≠ 95; omega), hW.same hL 12 (by omega) (by omega) (by omega)⟩
    · injection hoo with hoo
      subst hoo
      rw [if_pos (by rfl)]
      have q95 : a.tmps.getD 95 undef = .pointer (some ⟨b, 0, none⟩) := hA.at_ 12 (95, _) (by omega) (hdep { on := 12, ground := .data } (by simp) rfl) rfl
      unfold Oper.wp
      simp [execOp, go_sem, q95]
      exact hK _ _ ⟨by simpa using hL, hA.put hL 13 (by omega) (96, _) rfl (by omega) (by omega) (by omega) (fun _ _ _ _ => rfl) (fun k y h1 h2 => by have := exS_slot h2; show y.1 ≠ 96; omega), hW.same hL 13 (by omega) (by omega) (by omega)⟩
    · injection hoo with hoo
      subst hoo
      rw [if_pos (by rfl)]
      have q96 : a.tmps.getD 96 undef = .pointer (some ⟨b, 1, none⟩) := hA.at_ 13 (96, _) (by omega) (hdep { on := 13, ground := .data } (by simp) rfl) rfl
      obtain ⟨k0, k1, k2, _⟩ := hW.l.x.cells
      unfold Oper.wp
      simp [execOp, go_sem, q96, k1]
      exact hK _ _ ⟨by simpa using hL, hA.put hL 14 (by omega) (97, _) rfl (by omega) (by omega) (by omega) (fun _ _ _ _ => rfl) (fun k y h1 h2 => by have := exS_slot h2; show y.1 ≠ 97; omega), hW.same hL 14 (by omega) (by omega) (by omega)⟩
    · injection hoo with hoo
      subst hoo
      rw [if_pos (by rfl)]
      have q86 : a.tmps.getD 86 undef = .slice (some ⟨g, 0, none⟩) (Ts.length + 1) cap := hA.at_ 3 (86, _) (by omega) (hdep { on := 3, ground := .data } (by simp) rfl) rfl
      have q87 : a.tmps.getD 87 undef = .int .i64 Ts.length := hA.at_ 4 (87, _) (by omega) (hdep { on := 4, ground := .data } (by simp) rfl) rfl
      unfold Oper.wp
      simp [execOp, go_sem, q86, q87, z0, z1]
      exact hK _ _ ⟨by simpa using hL, hA.put hL 15 (by omega) (98, _) rfl (by omega) (by omega) (by omega) (fun _ _ _ _ => rfl) (fun k y h1 h2 => by have := exS_slot h2; show y.1 ≠ 98; omega), hW.same hL 15 (by omega) (by omega) (by omega)⟩
    · injection hoo with hoo
      subst hoo
      rw [if_pos (by rfl)]
      have q98 : a.tmps.getD 98 undef = .pointer (some ⟨g, Ts.length * 9, none⟩) := hA.at_ 15 (98, _) (by omega) (hdep { on := 15, ground := .data } (by simp) rfl) rfl
      unfold Oper.wp
      simp [execOp, go_sem, q98]
      exact hK _ _ ⟨by simpa using hL, hA.put hL 16 (by omega) (99, _) rfl (by omega) (by omega) (by omega) (fun _ _ _ _ => rfl) (fun k y h1 h2 => by have := exS_slot h2; show y.1 ≠ 99; omega), hW.same hL 16 (by omega) (by omega) (by omega)⟩
    · injection hoo with hoo
      subst hoo
      rw [if_pos (by rfl)]
      have q99 : a.tmps.getD 99 undef = .pointer (some ⟨g, Ts.length * 9 + 7, none⟩) := hA.at_ 16 (99, _) (by omega) (hdep { on := 16, ground := .data } (by simp) rfl) rfl
      have q93 : a.tmps.getD 93 undef = .int .i64 p := hA.at_ 10 (93, _) (by omega) (hdep { on := 10, ground := .data } (by simp) rfl) rfl
      obtain ⟨v0, k8⟩ := hW.cell 7 (by omega)
      have f8 := own_free hW.l.ro (g := g) rfl (Ts.length * 9 + 7)
      unfold Oper.wp
      simp [execOp, go_sem, q99, q93, k8, f8]
      exact hK _ _ ⟨by simpa using hL, hA.none hL 17 (by omega) rfl undef, hW.set17 hL hl⟩
    · injection hoo with hoo
      subst hoo
      rw [if_pos (by rfl)]
      have q91 : a.tmps.getD 91 undef = .slice (some ⟨g, 0, none⟩) (Ts.length + 1) cap := hA.at_ 8 (91, _) (by omega) (hdep { on := 8, ground := .data } (by simp) rfl) rfl
      have q92 : a.tmps.getD 92 undef = .int .i64 Ts.length := hA.at_ 9 (92, _) (by omega) (hdep { on := 9, ground := .data } (by simp) rfl) rfl
      unfold Oper.wp
      simp [execOp, go_sem, q91, q92, z0, z1]
      exact hK _ _ ⟨by simpa using hL, hA.put hL 18 (by omega) (100, _) rfl (by omega) (by omega) (by omega) (fun _ _ _ _ => rfl) (fun k y h1 h2 => by have := exS_slot h2; show y.1 ≠ 100; omega), hW.same hL 18 (by omega) (by omega) (by omega)⟩
    · injection hoo with hoo
      subst hoo
      rw [if_pos (by rfl)]
      have q100 : a.tmps.getD 100 undef = .pointer (some ⟨g, Ts.length * 9, none⟩) := hA.at_ 18 (100, _) (by omega) (hdep { on := 18, ground := .data } (by simp) rfl) rfl
      unfold Oper.wp
      simp [execOp, go_sem, q100]
      exact hK _ _ ⟨by simpa using hL, hA.put hL 19 (by omega) (101, _) rfl (by omega) (by omega) (by omega) (fun _ _ _ _ => rfl) (fun k y h1 h2 => by have := exS_slot h2; show y.1 ≠ 101; omega), hW.same hL 19 (by omega) (by omega) (by omega)⟩
    · injection hoo with hoo
      subst hoo
      rw [if_pos (by rfl)]
      have q101 : a.tmps.getD 101 undef = .pointer (some ⟨g, Ts.length * 9 + 8, none⟩) := hA.at_ 19 (101, _) (by omega) (hdep { on := 19, ground := .data } (by simp) rfl) rfl
      have q97 : a.tmps.getD 97 undef = .int .i64 d := hA.at_ 14 (97, _) (by omega) (hdep { on := 14, ground := .data } (by simp) rfl) rfl
      obtain ⟨v0, k8⟩ := hW.cell 8 (by omega)
      have f8 := own_free hW.l.ro (g := g) rfl (Ts.length * 9 + 8)
      unfold Oper.wp
      simp [execOp, go_sem, q101, q97, k8, f8]
      exact hK _ _ ⟨by simpa using hL, hA.none hL 20 (by omega) rfl undef, hW.set20 hL hl⟩
  · intro L a w hall ⟨hL, hA, hW⟩
    have hall : ∀ i, i < 21 → L.getD i false = true := fun i hi => hall i (by simpa using hi)
    have hl := hW.l
    rw [if_pos (hall 17 (by omega)), if_pos (hall 20 (by omega))] at hl
    exact hfin a w hA.z hA.d (fun j hj => hA.far j (by omega)) ⟨_, _, _, _, _, hl⟩ hW.be
end Go.Proofs.YtblphppdfiipfaaDoor
