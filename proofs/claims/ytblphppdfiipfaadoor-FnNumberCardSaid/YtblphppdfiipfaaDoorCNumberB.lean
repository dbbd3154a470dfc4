/- The lexer takes a number: a decimal one. Conditions: none. -/
import Derived.Test.YtblphppdfiipfaaDoorCNumberA
namespace Go.Proofs.YtblphppdfiipfaaDoor
open Go.RowKit
set_option maxRecDepth 100000

/-- what each operation lays: the call of ParseFloat -/
def exP (b : Nat) (s tx : ByteArray) (p d : Nat) (v er : Value) : Nat → Option (Nat × Value)
  | 0 => some (277, .string s)
  | 1 => some (278, .int .i64 p)
  | 2 => some (279, .pointer (some ⟨b, 0, none⟩))
  | 3 => some (280, .pointer (some ⟨b, 0, none⟩))
  | 4 => some (281, .pointer (some ⟨b, 1, none⟩))
  | 5 => some (282, .int .i64 d)
  | 6 => some (283, .string tx)
  | 7 => some (284, .tuple #[v, er])
  | 8 => some (276, .tuple #[v, er])
  | 9 => some (285, v)
  | 10 => some (286, er)
  | 11 => some (7, v)
  | _ => none
/-- the slots of the operations -/
def slP (i : Nat) : Nat := if i ≤ 7 then 277 + i else if i = 8 then 276 else if i ≤ 10 then 276 + i else 7
theorem exP_slot {b : Nat} {s tx : ByteArray} {p d : Nat} {v er : Value} {i : Nat} {x : Nat × Value} (h : exP b s tx p d v er i = some x) : x.1 = slP i ∧ i < 12 := by
  unfold exP at h
  split at h <;> simp at h <;> subst h <;> simp [slP]
theorem hSL (k : Nat) : (k ≤ 7 → slP k = 277 + k) ∧ (k = 8 → slP k = 276) ∧ (k = 9 → slP k = 285) ∧ (k = 10 → slP k = 286) ∧ (k = 11 → slP k = 7) := by
  refine ⟨fun h => ?_, fun h => ?_, fun h => ?_, fun h => ?_, fun h => ?_⟩
  · unfold slP; rw [if_pos h]
  all_goals subst h; rfl
theorem exP_v {b : Nat} {s tx : ByteArray} {p d : Nat} {v er v' er' : Value} {i : Nat} (h : i < 7) : exP b s tx p d v er i = exP b s tx p d v' er' i := by
  unfold exP
  split <;> first
    | rfl
    | omega
structure WorldC (W w : World) (L : Array Bool) : Prop where
  st : L.getD 7 false = false → w = W
  g : W.grownBy w none
  c7 : L.getD 7 false = true → ∀ k, k < 7 → L.getD k false = true
  c6 : L.getD 6 false = true → ∀ k, k < 6 → L.getD k false = true
  c5 : L.getD 5 false = true → L.getD 4 false = true ∧ L.getD 3 false = true ∧ L.getD 2 false = true
  c4 : L.getD 4 false = true → L.getD 3 false = true ∧ L.getD 2 false = true
  c3 : L.getD 3 false = true → L.getD 2 false = true
  c8 : L.getD 8 false = true → L.getD 7 false = true
  c9 : L.getD 9 false = true → L.getD 7 false = true
  c10 : L.getD 10 false = true → L.getD 7 false = true
  c11 : L.getD 11 false = true → L.getD 7 false = true
theorem WorldC.n7 {W w : World} {L : Array Bool} (h : WorldC W w L) {k : Nat} (hl : L.getD k false = false) (hk : k < 7) : L.getD 7 false = false := by
  cases e : L.getD 7 false with
  | false => rfl
  | true => exact absurd (h.c7 e k hk) (by rw [hl]; simp)
theorem WorldC.mk2 {W w w' : World} {L : Array Bool} (h : WorldC W w L) (hL : L.size = 12) (i : Nat) (hi : i < 12) (hg : W.grownBy w' none) (hst : i ≠ 7 → L.getD 7 false = false → w' = W)
    (hd7 : i = 7 → ∀ k, k < 7 → L.getD k false = true) (hd6 : i = 6 → ∀ k, k < 6 → L.getD k false = true) (hd5 : i = 5 → L.getD 4 false = true ∧ L.getD 3 false = true ∧ L.getD 2 false = true) (hd4 : i = 4 → L.getD 3 false = true ∧ L.getD 2 false = true) (hd3 : i = 3 → L.getD 2 false = true)
    (hd8 : 8 ≤ i → L.getD 7 false = true) : WorldC W w' (L.setIfInBounds i true) := by
  have g0 := lset_getG hL i hi
  have up : ∀ k, L.getD k false = true → (L.setIfInBounds i true).getD k false = true := fun k hk => by rw [g0]; split <;> simp [*]
  have dn : ∀ k, k ≠ i → (L.setIfInBounds i true).getD k false = true → L.getD k false = true := fun k hk h => by rwa [g0, if_neg hk] at h
  refine ⟨fun e => ?_, hg, fun e k hk => ?_, fun e k hk => ?_, fun e => ?_, fun e => ?_, fun e => ?_, fun e => ?_, fun e => ?_, fun e => ?_, fun e => ?_⟩
  · rw [g0] at e
    by_cases h7 : 7 = i
    · rw [if_pos h7] at e; exact absurd e (by simp)
    · rw [if_neg h7] at e; exact hst (fun h => h7 h.symm) e
  · by_cases h7 : 7 = i
    · exact up k (hd7 h7.symm k hk)
    · exact up k (h.c7 (dn 7 h7 e) k hk)
  · by_cases h7 : 6 = i
    · exact up k (hd6 h7.symm k hk)
    · exact up k (h.c6 (dn 6 h7 e) k hk)
  · by_cases h7 : 5 = i
    · exact ⟨up _ (hd5 h7.symm).1, up _ (hd5 h7.symm).2.1, up _ (hd5 h7.symm).2.2⟩
    · have := h.c5 (dn 5 h7 e); exact ⟨up _ this.1, up _ this.2.1, up _ this.2.2⟩
  · by_cases h7 : 4 = i
    · exact ⟨up _ (hd4 h7.symm).1, up _ (hd4 h7.symm).2⟩
    · have := h.c4 (dn 4 h7 e); exact ⟨up _ this.1, up _ this.2⟩
  · by_cases h7 : 3 = i
    · exact up _ (hd3 h7.symm)
    · exact up _ (h.c3 (dn 3 h7 e))
  · by_cases h7 : 8 = i
    · exact up _ (hd8 (by omega))
    · exact up _ (h.c8 (dn 8 h7 e))
  · by_cases h7 : 9 = i
    · exact up _ (hd8 (by omega))
    · exact up _ (h.c9 (dn 9 h7 e))
  · by_cases h7 : 10 = i
    · exact up _ (hd8 (by omega))
    · exact up _ (h.c10 (dn 10 h7 e))
  · by_cases h7 : 11 = i
    · exact up _ (hd8 (by omega))
    · exact up _ (h.c11 (dn 11 h7 e))

set_option maxHeartbeats 2000000 in
theorem region31_any (b bx bs : Nat) (s : ByteArray) (p d : Nat) (R : Value → Value → Prop) (a0 : Act) (w0 : World) (Q : Exit → Act → World → Prop) (hz : a0.tmps.size = 352) (hd : a0.defers = [])
    (h2 : a0.tmps.getD 2 undef = .pointer (some ⟨bx, 0, none⟩)) (h4 : a0.tmps.getD 4 undef = .pointer (some ⟨bs, 0, none⟩)) (h5 : a0.tmps.getD 5 undef = .int .i64 p)
    (hbx0 : w0.cell? ⟨bx, 0, none⟩ = some (.pointer (some ⟨b, 0, none⟩))) (hbs0 : w0.cell? ⟨bs, 0, none⟩ = some (.string s)) (hc10 : w0.cell? ⟨b, 1, none⟩ = some (.int .i64 d))
    (hpd : p ≤ d) (hds : d ≤ s.size)
    (hcall0 : Calls Tryd.prog 30 #[.string (s.extract p d), .int .i64 64] { w0 with drawn := w0.drawn + 1 } fun e w' => ∃ v er, e = .returned (.tuple #[v, er]) ∧ ({ w0 with drawn := w0.drawn + 1 } : World).grownBy w' none ∧ R v er)
    (hfin : ∀ (a' : Act) (w' : World) (v er : Value), R v er → a'.tmps.size = 352 → a'.defers = [] → (∀ j, j < 7 → a'.tmps.getD j undef = a0.tmps.getD j undef) → a'.tmps.getD 7 undef = v → w0.grownBy w' none → Q .normal a' w') :
    Code.wp Tryd.prog (c19 [true, true, true, true, false, true, true, true, true, true, true, true]) Q a0 w0 := by
  have s1 : (p : Int) ≤ d := by omega
  have s2 : (d : Int) ≤ s.size := by omega
  have s3 : (0 : Int) ≤ p := by omega
  obtain ⟨tx, htx⟩ : ∃ tx, tx = s.extract p d := ⟨_, rfl⟩
  rw [← htx] at hcall0
  obtain ⟨W, hWW⟩ : ∃ W : World, W = { w0 with drawn := w0.drawn + 1 } := ⟨_, rfl⟩
  have hbx : W.cell? ⟨bx, 0, none⟩ = some (.pointer (some ⟨b, 0, none⟩)) := by rw [hWW]; exact hbx0
  have hbs : W.cell? ⟨bs, 0, none⟩ = some (.string s) := by rw [hWW]; exact hbs0
  have hc1 : W.cell? ⟨b, 1, none⟩ = some (.int .i64 d) := by rw [hWW]; exact hc10
  have hgW : w0.grownBy W none := by rw [hWW]; exact gb_drewN (World.grownBy.refl _ _) 1
  rw [← hWW] at hcall0
  conv => arg 2; whnf
  refine wp_region_inv (by kernel_rfl) (fun L a w => L.size = 12 ∧ ∃ v er, SlotG 12 352 7 286 (exP b s tx p d v er) L a0 a ∧ (L.getD 7 false = true → R v er) ∧ WorldC W w L) ?_ ?_ ?_ ?_
  · rw [← hWW]
    exact ⟨by simp, undef, undef, ⟨hd, hz, fun _ _ => rfl, fun i x hi hl _ => absurd hl (repF _ i)⟩, fun h => absurd h (repF _ _), ⟨fun _ => rfl, World.grownBy.refl _ _, fun h => absurd h (repF _ _), fun h => absurd h (repF _ _), fun h => absurd h (repF _ _), fun h => absurd h (repF _ _), fun h => absurd h (repF _ _), fun h => absurd h (repF _ _), fun h => absurd h (repF _ _), fun h => absurd h (repF _ _), fun h => absurd h (repF _ _)⟩⟩
  · intro i o ho
    have hi : i < 12 := by
      have := (Array.getElem?_eq_some_iff.1 ho).1
      simpa using this
    have hcases : i = 0 ∨ i = 1 ∨ i = 2 ∨ i = 3 ∨ i = 4 ∨ i = 5 ∨ i = 6 ∨ i = 7 ∨ i = 8 ∨ i = 9 ∨ i = 10 ∨ i = 11 := by omega
    rcases hcases with rfl | rfl | rfl | rfl | rfl | rfl | rfl | rfl | rfl | rfl | rfl | rfl
    all_goals
      injection ho with ho
      subst ho
      decide +kernel
  · intro L a w i oo hLs hoo hl hdep ⟨hL, v, er, hA, hR7, hW⟩ K hK
    have hi : i < 12 := by
      have := (Array.getElem?_eq_some_iff.1 hoo).1
      simpa using this
    have hcall := hcall0
    have hR : ∀ {j : Nat}, j ≠ 7 → ((L.setIfInBounds j true).getD 7 false = true → R v er) := fun {j} hj h => hR7 (by
      by_cases hj12 : j < 12
      · rwa [lset_getG hL j hj12, if_neg (fun e => hj e.symm)] at h
      · rw [Array.setIfInBounds_eq_of_size_le (by omega)] at h; exact h)
    have hcases : i = 0 ∨ i = 1 ∨ i = 2 ∨ i = 3 ∨ i = 4 ∨ i = 5 ∨ i = 6 ∨ i = 7 ∨ i = 8 ∨ i = 9 ∨ i = 10 ∨ i = 11 := by omega
    rcases hcases with rfl | rfl | rfl | rfl | rfl | rfl | rfl | rfl | rfl | rfl | rfl | rfl
    · injection hoo with hoo
      subst hoo
      rw [if_pos (by rfl)]
      have hw := hW.st (hW.n7 hl (by omega))
      have kx := (hw ▸ hbx : w.cell? ⟨bx, 0, none⟩ = _)
      have ks := (hw ▸ hbs : w.cell? ⟨bs, 0, none⟩ = _)
      have k1 := (hw ▸ hc1 : w.cell? ⟨b, 1, none⟩ = _)
      have r4 := (hA.far 4 (by omega)).trans h4
      unfold Oper.wp
      simp [execOp, go_sem, r4, ks]
      exact hK _ _ ⟨by simpa using hL, v, er, hA.put hL 0 (by omega) (277, _) rfl (by omega) (by omega) (by omega) (fun _ _ _ _ => rfl) (fun k y h1 h2 => by have := exP_slot h2; have hk := hSL k; show y.1 ≠ 277; omega), hR (by omega), hW.mk2 hL 0 (by omega) hW.g (fun _ h => hW.st h) (fun h => absurd h (by omega)) (fun h => absurd h (by omega)) (fun h => absurd h (by omega)) (fun h => absurd h (by omega)) (fun h => absurd h (by omega)) (fun h => absurd h (by omega))⟩
    · injection hoo with hoo
      subst hoo
      rw [if_pos (by rfl)]
      have r5 := (hA.far 5 (by omega)).trans h5
      unfold Oper.wp
      simp [execOp, go_sem, r5]
      exact hK _ _ ⟨by simpa using hL, v, er, hA.put hL 1 (by omega) (278, _) rfl (by omega) (by omega) (by omega) (fun _ _ _ _ => rfl) (fun k y h1 h2 => by have := exP_slot h2; have hk := hSL k; show y.1 ≠ 278; omega), hR (by omega), hW.mk2 hL 1 (by omega) hW.g (fun _ h => hW.st h) (fun h => absurd h (by omega)) (fun h => absurd h (by omega)) (fun h => absurd h (by omega)) (fun h => absurd h (by omega)) (fun h => absurd h (by omega)) (fun h => absurd h (by omega))⟩
    · injection hoo with hoo
      subst hoo
      rw [if_pos (by rfl)]
      have hw := hW.st (hW.n7 hl (by omega))
      have kx := (hw ▸ hbx : w.cell? ⟨bx, 0, none⟩ = _)
      have ks := (hw ▸ hbs : w.cell? ⟨bs, 0, none⟩ = _)
      have k1 := (hw ▸ hc1 : w.cell? ⟨b, 1, none⟩ = _)
      have r2 := (hA.far 2 (by omega)).trans h2
      unfold Oper.wp
      simp [execOp, go_sem, r2, kx]
      exact hK _ _ ⟨by simpa using hL, v, er, hA.put hL 2 (by omega) (279, _) rfl (by omega) (by omega) (by omega) (fun _ _ _ _ => rfl) (fun k y h1 h2 => by have := exP_slot h2; have hk := hSL k; show y.1 ≠ 279; omega), hR (by omega), hW.mk2 hL 2 (by omega) hW.g (fun _ h => hW.st h) (fun h => absurd h (by omega)) (fun h => absurd h (by omega)) (fun h => absurd h (by omega)) (fun h => absurd h (by omega)) (fun h => absurd h (by omega)) (fun h => absurd h (by omega))⟩
    · injection hoo with hoo
      subst hoo
      rw [if_pos (by rfl)]
      have q279 : a.tmps.getD 279 undef = .pointer (some ⟨b, 0, none⟩) := hA.at_ 2 (279, _) (by omega) (hdep { on := 2, ground := .data } (by simp) rfl) rfl
      unfold Oper.wp
      simp [execOp, go_sem, q279]
      exact hK _ _ ⟨by simpa using hL, v, er, hA.put hL 3 (by omega) (280, _) rfl (by omega) (by omega) (by omega) (fun _ _ _ _ => rfl) (fun k y h1 h2 => by have := exP_slot h2; have hk := hSL k; show y.1 ≠ 280; omega), hR (by omega), hW.mk2 hL 3 (by omega) hW.g (fun _ h => hW.st h) (fun h => absurd h (by omega)) (fun h => absurd h (by omega)) (fun h => absurd h (by omega)) (fun h => absurd h (by omega)) (fun _ => (hdep { on := 2, ground := .data } (by simp) rfl)) (fun h => absurd h (by omega))⟩
    · injection hoo with hoo
      subst hoo
      rw [if_pos (by rfl)]
      have q280 : a.tmps.getD 280 undef = .pointer (some ⟨b, 0, none⟩) := hA.at_ 3 (280, _) (by omega) (hdep { on := 3, ground := .data } (by simp) rfl) rfl
      unfold Oper.wp
      simp [execOp, go_sem, q280]
      exact hK _ _ ⟨by simpa using hL, v, er, hA.put hL 4 (by omega) (281, _) rfl (by omega) (by omega) (by omega) (fun _ _ _ _ => rfl) (fun k y h1 h2 => by have := exP_slot h2; have hk := hSL k; show y.1 ≠ 281; omega), hR (by omega), hW.mk2 hL 4 (by omega) hW.g (fun _ h => hW.st h) (fun h => absurd h (by omega)) (fun h => absurd h (by omega)) (fun h => absurd h (by omega)) (fun _ => ⟨(hdep { on := 3, ground := .data } (by simp) rfl), hW.c3 (hdep { on := 3, ground := .data } (by simp) rfl)⟩) (fun h => absurd h (by omega)) (fun h => absurd h (by omega))⟩
    · injection hoo with hoo
      subst hoo
      rw [if_pos (by rfl)]
      have hw := hW.st (hW.n7 hl (by omega))
      have kx := (hw ▸ hbx : w.cell? ⟨bx, 0, none⟩ = _)
      have ks := (hw ▸ hbs : w.cell? ⟨bs, 0, none⟩ = _)
      have k1 := (hw ▸ hc1 : w.cell? ⟨b, 1, none⟩ = _)
      have q281 : a.tmps.getD 281 undef = .pointer (some ⟨b, 1, none⟩) := hA.at_ 4 (281, _) (by omega) (hdep { on := 4, ground := .data } (by simp) rfl) rfl
      unfold Oper.wp
      simp [execOp, go_sem, q281, k1]
      exact hK _ _ ⟨by simpa using hL, v, er, hA.put hL 5 (by omega) (282, _) rfl (by omega) (by omega) (by omega) (fun _ _ _ _ => rfl) (fun k y h1 h2 => by have := exP_slot h2; have hk := hSL k; show y.1 ≠ 282; omega), hR (by omega), hW.mk2 hL 5 (by omega) hW.g (fun _ h => hW.st h) (fun h => absurd h (by omega)) (fun h => absurd h (by omega)) (fun _ => ⟨(hdep { on := 4, ground := .data } (by simp) rfl), (hW.c4 (hdep { on := 4, ground := .data } (by simp) rfl)).1, (hW.c4 (hdep { on := 4, ground := .data } (by simp) rfl)).2⟩) (fun h => absurd h (by omega)) (fun h => absurd h (by omega)) (fun h => absurd h (by omega))⟩
    · injection hoo with hoo
      subst hoo
      rw [if_pos (by rfl)]
      have q277 : a.tmps.getD 277 undef = .string s := hA.at_ 0 (277, _) (by omega) (hdep { on := 0, ground := .data } (by simp) rfl) rfl
      have q278 : a.tmps.getD 278 undef = .int .i64 p := hA.at_ 1 (278, _) (by omega) (hdep { on := 1, ground := .data } (by simp) rfl) rfl
      have q282 : a.tmps.getD 282 undef = .int .i64 d := hA.at_ 5 (282, _) (by omega) (hdep { on := 5, ground := .data } (by simp) rfl) rfl
      unfold Oper.wp
      simp [execOp, go_sem, q277, q278, q282, s1, s2, s3]
      rw [← htx]
      exact hK _ _ ⟨by simpa using hL, v, er, hA.put hL 6 (by omega) (283, _) rfl (by omega) (by omega) (by omega) (fun _ _ _ _ => rfl) (fun k y h1 h2 => by have := exP_slot h2; have hk := hSL k; show y.1 ≠ 283; omega), hR (by omega), hW.mk2 hL 6 (by omega) hW.g (fun _ h => hW.st h) (fun h => absurd h (by omega)) (fun _ k hk => by
        have h5 := hW.c5 (hdep { on := 5, ground := .data } (by simp) rfl)
        have hc : k = 0 ∨ k = 1 ∨ k = 2 ∨ k = 3 ∨ k = 4 ∨ k = 5 := by omega
        rcases hc with rfl | rfl | rfl | rfl | rfl | rfl
        · exact (hdep { on := 0, ground := .data } (by simp) rfl)
        · exact (hdep { on := 1, ground := .data } (by simp) rfl)
        · exact h5.2.2
        · exact h5.2.1
        · exact h5.1
        · exact (hdep { on := 5, ground := .data } (by simp) rfl)) (fun h => absurd h (by omega)) (fun h => absurd h (by omega)) (fun h => absurd h (by omega)) (fun h => absurd h (by omega))⟩
    · injection hoo with hoo
      subst hoo
      rw [if_pos (by rfl)]
      have q283 : a.tmps.getD 283 undef = .string tx := hA.at_ 6 (283, _) (by omega) (hdep { on := 6, ground := .data } (by simp) rfl) rfl
      have hw := hW.st hl
      subst hw
      have h6 := hW.c6 (hdep { on := 6, ground := .data } (by simp) rfl)
      unfold Oper.wp
      simp [execOp, go_sem, q283]
      refine hcall.mono ?_
      rintro e w' ⟨v', er', rfl, hG, hv'⟩
      exact hK _ _ ⟨by simpa using hL, v', er', hA.put (ex' := exP b s tx p d v' er') hL 7 (by omega) (284, _) rfl (by omega) (by omega) (by omega) (fun k hk hk7 hlk => exP_v (by have := fun h => hW.c8 h; rcases (by omega : k < 7 ∨ k = 8 ∨ k = 9 ∨ k = 10 ∨ k = 11) with h | h | h | h | h; exact h; all_goals (exfalso; subst h; first | exact absurd (hW.c8 hlk) (by rw [hl]; simp) | exact absurd (hW.c9 hlk) (by rw [hl]; simp) | exact absurd (hW.c10 hlk) (by rw [hl]; simp) | exact absurd (hW.c11 hlk) (by rw [hl]; simp)))) (fun k y h1 h2 => by have := exP_slot h2; have hk := hSL k; show y.1 ≠ 284; omega), fun _ => hv', hW.mk2 hL 7 (by omega) hG (fun h => absurd rfl h) (fun _ k hk => by rcases (by omega : k < 6 ∨ k = 6) with h | h; exact h6 k h; rw [h]; exact (hdep { on := 6, ground := .data } (by simp) rfl)) (fun h => absurd h (by omega)) (fun h => absurd h (by omega)) (fun h => absurd h (by omega)) (fun h => absurd h (by omega)) (fun h => absurd h (by omega))⟩
    · injection hoo with hoo
      subst hoo
      rw [if_pos (by rfl)]
      have q284 : a.tmps.getD 284 undef = .tuple #[v, er] := hA.at_ 7 (284, _) (by omega) (hdep { on := 7, ground := .data } (by simp) rfl) rfl
      unfold Oper.wp
      simp [execOp, go_sem, q284]
      exact hK _ _ ⟨by simpa using hL, v, er, hA.put hL 8 (by omega) (276, _) rfl (by omega) (by omega) (by omega) (fun _ _ _ _ => rfl) (fun k y h1 h2 => by have := exP_slot h2; have hk := hSL k; show y.1 ≠ 276; omega), hR (by omega), hW.mk2 hL 8 (by omega) hW.g (fun _ h => hW.st h) (fun h => absurd h (by omega)) (fun h => absurd h (by omega)) (fun h => absurd h (by omega)) (fun h => absurd h (by omega)) (fun h => absurd h (by omega)) (fun _ => (hdep { on := 7, ground := .data } (by simp) rfl))⟩
    · injection hoo with hoo
      subst hoo
      rw [if_pos (by rfl)]
      have q276 : a.tmps.getD 276 undef = .tuple #[v, er] := hA.at_ 8 (276, _) (by omega) (hdep { on := 8, ground := .data } (by simp) rfl) rfl
      unfold Oper.wp
      simp [execOp, go_sem, q276]
      exact hK _ _ ⟨by simpa using hL, v, er, hA.put hL 9 (by omega) (285, _) rfl (by omega) (by omega) (by omega) (fun _ _ _ _ => rfl) (fun k y h1 h2 => by have := exP_slot h2; have hk := hSL k; show y.1 ≠ 285; omega), hR (by omega), hW.mk2 hL 9 (by omega) hW.g (fun _ h => hW.st h) (fun h => absurd h (by omega)) (fun h => absurd h (by omega)) (fun h => absurd h (by omega)) (fun h => absurd h (by omega)) (fun h => absurd h (by omega)) (fun _ => hW.c8 (hdep { on := 8, ground := .data } (by simp) rfl))⟩
    · injection hoo with hoo
      subst hoo
      rw [if_pos (by rfl)]
      have q276 : a.tmps.getD 276 undef = .tuple #[v, er] := hA.at_ 8 (276, _) (by omega) (hdep { on := 8, ground := .data } (by simp) rfl) rfl
      unfold Oper.wp
      simp [execOp, go_sem, q276]
      exact hK _ _ ⟨by simpa using hL, v, er, hA.put hL 10 (by omega) (286, _) rfl (by omega) (by omega) (by omega) (fun _ _ _ _ => rfl) (fun k y h1 h2 => by have := exP_slot h2; have hk := hSL k; show y.1 ≠ 286; omega), hR (by omega), hW.mk2 hL 10 (by omega) hW.g (fun _ h => hW.st h) (fun h => absurd h (by omega)) (fun h => absurd h (by omega)) (fun h => absurd h (by omega)) (fun h => absurd h (by omega)) (fun h => absurd h (by omega)) (fun _ => hW.c8 (hdep { on := 8, ground := .data } (by simp) rfl))⟩
    · injection hoo with hoo
      subst hoo
      rw [if_pos (by rfl)]
      have q285 : a.tmps.getD 285 undef = v := hA.at_ 9 (285, _) (by omega) (hdep { on := 9, ground := .data } (by simp) rfl) rfl
      unfold Oper.wp
      simp [execOp, go_sem, q285]
      exact hK _ _ ⟨by simpa using hL, v, er, hA.put hL 11 (by omega) (7, _) rfl (by omega) (by omega) (by omega) (fun _ _ _ _ => rfl) (fun k y h1 h2 => by have := exP_slot h2; have hk := hSL k; show y.1 ≠ 7; omega), hR (by omega), hW.mk2 hL 11 (by omega) hW.g (fun _ h => hW.st h) (fun h => absurd h (by omega)) (fun h => absurd h (by omega)) (fun h => absurd h (by omega)) (fun h => absurd h (by omega)) (fun h => absurd h (by omega)) (fun _ => hW.c9 (hdep { on := 9, ground := .data } (by simp) rfl))⟩
  · intro L a w hall ⟨hL, v, er, hA, hR7, hW⟩
    have hall : ∀ i, i < 12 → L.getD i false = true := fun i hi => hall i (by simpa using hi)
    exact hfin a w v er (hR7 (hall 7 (by omega))) hA.z hA.d (fun j hj => hA.far j (by omega)) (hA.at_ 11 (7, _) (by omega) (hall 11 (by omega)) rfl) (Lib.grownBy_trans hgW hW.g)
set_option maxRecDepth 100000

def F19e (b : Nat) (z : Bool) (bx bs : Nat) (p : Nat) : (Nat → Value) → Act := FG 352 [(0, .pointer (some ⟨b, 0, none⟩)), (1, .bool z), (2, .pointer (some ⟨bx, 0, none⟩)), (4, .pointer (some ⟨bs, 0, none⟩)), (5, .int .i64 p), (6, .func (.func 26) #[] #[.pointer (some ⟨bx, 0, none⟩), .pointer (some ⟨bs, 0, none⟩)])]
theorem F19e_lit (b : Nat) (z : Bool) (bx bs : Nat) (p : Nat) (u : Nat → Value) : F19e b  z  bx bs  p u = { tmps := List.toArray (.pointer (some ⟨b, 0, none⟩) :: .bool z :: .pointer (some ⟨bx, 0, none⟩) :: u 3 :: .pointer (some ⟨bs, 0, none⟩) :: .int .i64 p :: .func (.func 26) #[] #[.pointer (some ⟨bx, 0, none⟩), .pointer (some ⟨bs, 0, none⟩)] :: u 7 :: u 8 :: u 9 :: u 10 :: u 11 :: u 12 :: sg352_13 u (u 329 :: sg352_330 u)), defers := [] } := by kernel_rfl
theorem F19e_at (b : Nat) (z : Bool) (bx bs : Nat) (p : Nat) {L : List Value} (hl : L.length = 352) (hn : NmOk L [(0, .pointer (some ⟨b, 0, none⟩)), (1, .bool z), (2, .pointer (some ⟨bx, 0, none⟩)), (4, .pointer (some ⟨bs, 0, none⟩)), (5, .int .i64 p), (6, .func (.func 26) #[] #[.pointer (some ⟨bx, 0, none⟩), .pointer (some ⟨bs, 0, none⟩)])]) : (F19e b  z  bx bs  p fun k => (Act.mk L.toArray []).tmps.getD k undef) = { tmps := L.toArray, defers := [] } := FG_at hl hn

theorem FG_self {n : Nat} {nm : List (Nat × Value)} {a : Act} (hz : a.tmps.size = n) (hd : a.defers = []) (hn : NmOk a.tmps.toList nm) : (FG n nm fun k => a.tmps.getD k undef) = a := by
  have h := FG_at (n := n) (nm := nm) (L := a.tmps.toList) (by simpa using hz) hn
  cases a with
  | mk tm df => subst hd; simpa using h
theorem toL_getD {a : Act} (k : Nat) (v : Value) (h : a.tmps.getD k undef = v) : a.tmps.toList.getD k undef = v := by
  rw [← h]; simp [Array.getD_eq_getD_getElem?, List.getD_eq_getElem?_getD]
theorem NE.step {B b : Nat} {s : ByteArray} {w0 w w' : World} {d d' : Nat} {op op' : Bool} {Ts : List Tok} {D : List Int} {O : List (Bool × Int)} {bx bs : Nat} (h : NE B b s w0 w d op Ts D O bx bs) (hg : w.grownBy w' (some b))
    (hx : ∀ o dd q la co, LX w b s d o dd op q la co → LX w' b s d' o dd op' q la co) : NE B b s w0 w' d' op' Ts D O bx bs := by
  obtain ⟨o, dd, q, la, co, hL, h1, h2⟩ := h.l
  exact ⟨⟨o, dd, q, la, co, hL.next hg (hx _ _ _ _ _ hL.x), h1, h2⟩, gb_cell hg (show (⟨bx, 0, none⟩ : Addr).block ≠ b from h.nx) h.x, gb_cell hg (show (⟨bs, 0, none⟩ : Addr).block ≠ b from h.ns) h.t, h.be.trans (gb_below hg hL.bb hL.bw), h.nx, h.ns⟩
theorem NE.at1 {B b : Nat} {s : ByteArray} {w0 w : World} {d : Nat} {op : Bool} {Ts : List Tok} {D : List Int} {O : List (Bool × Int)} {bx bs : Nat} (h : NE B b s w0 w d op Ts D O bx bs) (d' : Nat) :
    NE B b s w0 (w.setCell ⟨b, 1, none⟩ (.int .i64 (d' : Int))) d' op Ts D O bx bs := h.step (gb_set (World.grownBy.refl _ _) _ _) fun _ _ _ _ _ hx => LX.set1 hx _
theorem NE.op1 {B b : Nat} {s : ByteArray} {w0 w : World} {d : Nat} {op : Bool} {Ts : List Tok} {D : List Int} {O : List (Bool × Int)} {bx bs : Nat} (h : NE B b s w0 w d op Ts D O bx bs) :
    NE B b s w0 (w.setCell ⟨b, 4, none⟩ (.bool true)) d true Ts D O bx bs := h.step (gb_set (World.grownBy.refl _ _) _ _) fun _ _ _ _ _ hx => LX.set4 hx _
theorem NE.gbn {B b : Nat} {s : ByteArray} {w0 w w' : World} {d : Nat} {op : Bool} {Ts : List Tok} {D : List Int} {O : List (Bool × Int)} {bx bs : Nat} (h : NE B b s w0 w d op Ts D O bx bs) (hg : w.grownBy w' none) : NE B b s w0 w' d op Ts D O bx bs := by
  obtain ⟨o, dd, q, la, co, hL, h1, h2⟩ := h.l
  exact ⟨⟨o, dd, q, la, co, hL.kept hg, h1, h2⟩, gbn_cell hg h.x, gbn_cell hg h.t, h.be.trans ((Below.refl B w).grown hg hL.bw (fun k hk => by cases hk)), h.nx, h.ns⟩
theorem NE.cells {B b : Nat} {s : ByteArray} {w0 w : World} {d : Nat} {op : Bool} {Ts : List Tok} {D : List Int} {O : List (Bool × Int)} {bx bs : Nat} (h : NE B b s w0 w d op Ts D O bx bs) :
    w.cell? ⟨b, 1, none⟩ = some (.int .i64 (d : Int)) ∧ w.cell? ⟨b, 4, none⟩ = some (.bool op) ∧ w.cell? ⟨b, 5, none⟩ = some (.bool true) ∧ w.frozen? ⟨b, 1, none⟩ = false ∧ w.frozen? ⟨b, 4, none⟩ = false := by
  obtain ⟨o, dd, q, la, co, hL, h1, h2⟩ := h.l
  obtain ⟨c0, c1, c2, c3, c4, c5, _⟩ := hL.x.cells
  exact ⟨c1, c4, c5, hL.x.free 1, hL.x.free 4⟩
/-- the run of digits -/
theorem rund_ne {B b : Nat} {s : ByteArray} {w0 w : World} {d : Nat} {op : Bool} {Ts : List Tok} {D : List Int} {O : List (Bool × Int)} {bx bs : Nat} (h : NE B b s w0 w d op Ts D O bx bs) (hs : s.size ≤ 100) (hd : d ≤ s.size) :
    Calls Tryd.prog 26 #[.func (.func 8) #[] #[], .pointer (some ⟨bx, 0, none⟩), .pointer (some ⟨bs, 0, none⟩)] w fun e w' => e = .returned (.int .i64 ((nA s d - d : Nat) : Int)) ∧ NE B b s w0 w' (nA s d) op Ts D O bx bs := by
  obtain ⟨o, dd, q, la, co, hL, h1, h2⟩ := h.l
  refine (rund_any bx bs b s d o dd op q la co w hs hd hL.x h.x h.t h.nx h.ns).mono ?_
  rintro e w' ⟨h3, h4, h5⟩
  refine ⟨h3, ⟨o, dd, q, la, co, hL.next h5 h4, h1, h2⟩, gb_cell h5 (show (⟨bx, 0, none⟩ : Addr).block ≠ b from h.nx) h.x, gb_cell h5 (show (⟨bs, 0, none⟩ : Addr).block ≠ b from h.ns) h.t, h.be.trans (gb_below h5 hL.bb hL.bw), h.nx, h.ns⟩
/-- what is asked of ParseFloat -/
def PfSaid (T : World → Prop) : Prop := ∀ (t : ByteArray) (q : Nat) (ex : Int) (w : World), T w → t.size ≤ 100 → 0 < q → q ≤ t.size → MOk t q → EOk t q ex →
  Calls Tryd.prog 30 #[.string t, .int .i64 64] w (PfsPost (gF (fV t q) (fD t q ex)) w)

set_option maxHeartbeats 2000000 in
theorem n19_e5 (B b bx bs : Nat) (T : World → Prop) (hP : PfSaid T) (z op : Bool) (s : ByteArray) (p d : Nat) (Ts : List Tok) (D : List Int) (O : List (Bool × Int)) (w0 w : World) (K : Act → World → Prop) (Q : Exit → Act → World → Prop) (a : Act)
    (ha : (F19e b z bx bs p fun k => a.tmps.getD k undef) = a) (hs : s.size ≤ 100) (hS : Stt s p) (hX : nX s (nB s p) = some d) (hN : NE B b s w0 w d op Ts D O bx bs) (hT : ∀ w', Below B w0 w' → T w')
    (hfin : ∀ (a : Act) (w' : World), NE B b s w0 w' d op Ts D O bx bs → (F19z b z bx bs p (numG (s.extract p d) (nB s p - p)) fun k => a.tmps.getD k undef) = a → K a w') :
    Code.wp Tryd.prog (c19 [true, true, true, true, false, true, true, true, true, true, true]) (Exit.then K Q) a w := by
  rw [← ha]
  clear ha
  generalize (fun k => a.tmps.getD k undef) = u
  conv => arg 2; whnf
  rw [F19e_lit, sg352_13, sg352_330]
  obtain ⟨o1, o2, o3, o4, o5, o6⟩ := scan_ok hs hS hX
  have HC := Lib.hid fun w (hw : T w) => hP (s.extract p d) (nB s p - p) _ w hw (by rw [ext_size _ _ _ o2]; omega) (by omega) (by rw [ext_size _ _ _ o2]; omega) o5 o6
  have HF := Lib.hid hfin
  have HN := Lib.hid hN
  have HT := Lib.hid hT
  obtain ⟨f, hf⟩ : ∃ f, numG (s.extract p d) (nB s p - p) = f := ⟨_, rfl⟩
  unfold numG at hf
  rw [hf] at HC
  have HFF := Lib.hid hf
  clear hfin hN hT hX hf o3 o4 o5 o6
  obtain ⟨c1, c4, c5, f1, f4⟩ := HN.out.cells
  have x2 := HN.out.x
  have x4 := HN.out.t
  have g1 : decide ((d : Int) - p > 2000) = false := decide_eq_false (by omega)
  have g2 : decide ((d : Int) - p > 300) = false := decide_eq_false (by omega)
  have s1 : (p : Int) ≤ d := by omega
  have s2 : (d : Int) ≤ s.size := by omega
  have s3 : (0 : Int) ≤ p := by omega
  go_wp2_with fail
  go_outline
  refine wp_code (c := c19 [true, true, true, true, false, true, true, true, true, true, true, true]) (by kernel_rfl) (region31_any b bx bs s p d (fun v _ => v = .float .f64 f) _ _ _ rfl rfl rfl rfl rfl x2 x4 c1 (by omega) (by omega) ?_ ?_)
  · refine (HC.out _ (HT.out _ ?_)).mono ?_
    · exact (HN.out.gbn (gb_drewN (World.grownBy.refl _ _) 1)).be
    · rintro e w' ⟨er, rfl, hg⟩
      exact ⟨_, er, rfl, hg, rfl⟩
  · rintro a' w' v er rfl hz hd hj h7 hg
    refine HF.out a' w' (HN.out.gbn hg) (FG_self hz hd ⟨toL_getD _ _ (hj 0 (by omega)), toL_getD _ _ (hj 1 (by omega)), toL_getD _ _ (hj 2 (by omega)), toL_getD _ _ (hj 4 (by omega)), toL_getD _ _ (hj 5 (by omega)), toL_getD _ _ (h7.trans ?_), trivial⟩)
    rw [← HFF.out]
    rfl
set_option maxRecDepth 100000

set_option maxHeartbeats 2000000 in
theorem n19_x26 (B b bx bs : Nat) (z op : Bool) (s : ByteArray) (p c : Nat) (Ts : List Tok) (D : List Int) (O : List (Bool × Int)) (w0 w : World) (K : Act → World → Prop) (Post : Ending → World → Prop) (a : Act)
    (ha : (F19e b z bx bs p fun k => a.tmps.getD k undef) = a) (hs : s.size ≤ 100) (hc : c ≤ s.size) (hN : NE B b s w0 w c op Ts D O bx bs)
    (hbad : (nA s c = c ∨ c + 6 < nA s c) → ∀ w', NE B b s w0 w' (nA s c) true Ts D O bx bs → Post (.returned (.tuple #[])) w')
    (hfin : ¬ (nA s c = c ∨ c + 6 < nA s c) → ∀ (a : Act) (w' : World), NE B b s w0 w' (nA s c) op Ts D O bx bs → (F19e b z bx bs p fun k => a.tmps.getD k undef) = a → K a w') :
    Code.wp Tryd.prog (c19 [true, true, true, true, false, true, true, true, true, true, false, true, false, true, true]) (Exit.then K (bodyPost Tryd.prog Tryd.f19 Post)) a w := by
  rw [← ha]
  clear ha
  generalize (fun k => a.tmps.getD k undef) = u
  conv => arg 2; whnf
  rw [F19e_lit, sg352_13, sg352_330]
  have hsp := spn_b dgP s s.size c hc
  have HC := Lib.hid (rund_ne hN hs hc)
  obtain ⟨e, he⟩ : ∃ e, nA s c = e := ⟨_, rfl⟩
  have hce : c ≤ e := by rw [← he]; exact hsp.1
  rw [he] at hbad hfin HC
  obtain ⟨n, hn⟩ : ∃ n, e - c = n := ⟨_, rfl⟩
  rw [hn] at HC
  have HF := Lib.hid hfin
  have HB := Lib.hid hbad
  clear hfin hN hbad hsp
  by_cases hn0 : n = 0
  · have g1 : ((n : Int) == 0) = true := by simp; omega
    go_wp2_with (go_at_call 26; refine HC.out.mono ?_; rintro e1 w1 ⟨rfl, hN1⟩; have HN := Lib.hid hN1; obtain ⟨c1, c4, c5, f1, f4⟩ := hN1.cells; have x2 := hN1.x; have x4 := hN1.t; clear hN1)
    go_end0
    exact HB.out (Or.inl (by omega)) _ HN.out.op1
  · have g1 : ((n : Int) == 0) = false := by simp; omega
    by_cases hn6 : 6 < n
    · have g2 : decide ((n : Int) > 6) = true := decide_eq_true (by omega)
      go_wp2_with (go_at_call 26; refine HC.out.mono ?_; rintro e1 w1 ⟨rfl, hN1⟩; have HN := Lib.hid hN1; obtain ⟨c1, c4, c5, f1, f4⟩ := hN1.cells; have x2 := hN1.x; have x4 := hN1.t; clear hN1)
      go_end0
      exact HB.out (Or.inr (by omega)) _ HN.out.op1
    · have g2 : decide ((n : Int) > 6) = false := decide_eq_false (by omega)
      by_cases hn3 : 3 < n
      · have g3 : decide ((n : Int) > 3) = true := decide_eq_true (by omega)
        go_wp2_with (go_at_call 26; refine HC.out.mono ?_; rintro e1 w1 ⟨rfl, hN1⟩; have HN := Lib.hid hN1; obtain ⟨c1, c4, c5, f1, f4⟩ := hN1.cells; have x2 := hN1.x; have x4 := hN1.t; clear hN1)
        exact HF.out (by omega) _ _ HN.out (F19e_at _ _ _ _ _ rfl ⟨rfl, rfl, rfl, rfl, rfl, rfl, trivial⟩)
      · have g3 : decide ((n : Int) > 3) = false := decide_eq_false (by omega)
        go_wp2_with (go_at_call 26; refine HC.out.mono ?_; rintro e1 w1 ⟨rfl, hN1⟩; have HN := Lib.hid hN1; obtain ⟨c1, c4, c5, f1, f4⟩ := hN1.cells; have x2 := hN1.x; have x4 := hN1.t; clear hN1)
        exact HF.out (by omega) _ _ HN.out (F19e_at _ _ _ _ _ rfl ⟨rfl, rfl, rfl, rfl, rfl, rfl, trivial⟩)

set_option maxHeartbeats 2000000 in
theorem n19_x23 (B b bx bs : Nat) (z op : Bool) (s : ByteArray) (p q : Nat) (Ts : List Tok) (D : List Int) (O : List (Bool × Int)) (w0 w : World) (K : Act → World → Prop) (Post : Ending → World → Prop) (a : Act)
    (ha : (F19e b z bx bs p fun k => a.tmps.getD k undef) = a) (hs : s.size ≤ 100) (hq : q < s.size) (hN : NE B b s w0 w q op Ts D O bx bs)
    (hbad : (nA s (nC s q) = nC s q ∨ nC s q + 6 < nA s (nC s q)) → ∀ w', NE B b s w0 w' (nA s (nC s q)) true Ts D O bx bs → Post (.returned (.tuple #[])) w')
    (hfin : ¬ (nA s (nC s q) = nC s q ∨ nC s q + 6 < nA s (nC s q)) → ∀ (a : Act) (w' : World), NE B b s w0 w' (nA s (nC s q)) op Ts D O bx bs → (F19e b z bx bs p fun k => a.tmps.getD k undef) = a → K a w') :
    Code.wp Tryd.prog (c19 [true, true, true, true, false, true, true, true, true, true, false, true, false]) (Exit.then K (bodyPost Tryd.prog Tryd.f19 Post)) a w := by
  rw [← ha]
  clear ha
  generalize (fun k => a.tmps.getD k undef) = u
  conv => arg 2; whnf
  rw [F19e_lit, sg352_13, sg352_330]
  have HX := Lib.hid fun (c : Nat) (hcs : c ≤ s.size) (hcc : nC s q = c) (a : Act) (w : World) (ha : (F19e b z bx bs p fun k => a.tmps.getD k undef) = a) (hN : NE B b s w0 w c op Ts D O bx bs) =>
    n19_x26 B b bx bs z op s p c Ts D O w0 w K Post a ha hs hcs hN (by rw [← hcc]; exact hbad) (by rw [← hcc]; exact hfin)
  have HN := Lib.hid hN
  clear hfin hN hbad
  obtain ⟨c1, c4, c5, f1, f4⟩ := HN.out.cells
  have x2 := HN.out.x
  have x4 := HN.out.t
  obtain ⟨m, hm⟩ : ∃ m, q + 1 = m := ⟨_, rfl⟩
  have w2 : IntKind.i64.wrap ((q : Int) + 1) = (m : Int) := by rw [show (q : Int) + 1 = (m : Int) by omega]; exact IntWalk.i64_in _ (by omega)
  have HN1 := Lib.hid (HN.out.at1 m)
  by_cases hlt : m < s.size
  · obtain ⟨c, hc⟩ : ∃ c : Nat, s[m].toNat = c := ⟨_, rfl⟩
    have hcb : bt s m = c := by rw [bt_eq hlt, hc]
    have HCB := Lib.hid hcb
    have g1 : decide ((m : Int) < s.size) = true := decide_eq_true (by omega)
    have g0 : (m : Int) < s.size := by omega
    obtain ⟨m2, hm2⟩ : ∃ m2, m + 1 = m2 := ⟨_, rfl⟩
    have w3 : IntKind.i64.wrap ((m : Int) + 1) = (m2 : Int) := by rw [show (m : Int) + 1 = (m2 : Int) by omega]; exact IntWalk.i64_in _ (by omega)
    clear hcb
    by_cases h43 : c = 43
    · have g2 : ((c : Int) == 43) = true := by simp; omega
      refine wp_seq_h ?_
      intro K1 HK1
      go_wp2_with fail
      apply HK1.out
      clear HK1
      refine wp_seq_h ?_
      intro K2 HK2
      refine wp_seq_h ?_
      intro K3 HK3
      go_quiet (fail)
      apply HK3.out
      clear HK3
      go_wp2_with fail
      apply HK2.out
      clear HK2
      refine wp_code (c := c19 [true, true, true, true, false, true, true, true, true, true, false, true, false, true, true]) (by kernel_rfl) (HX.out m2 (by omega) ?_ _ _ (F19e_at _ _ _ _ _ rfl ⟨rfl, rfl, rfl, rfl, rfl, rfl, trivial⟩) ((HN1.out.gbn (gb_drewN (World.grownBy.refl _ _) _)).at1 m2))
      unfold nC; rw [if_pos ⟨by omega, by rw [hm, HCB.out]; omega⟩]; omega
    · have g2 : ((c : Int) == 43) = false := by simp; omega
      by_cases h45 : c = 45
      · have g3 : ((c : Int) == 45) = true := by simp; omega
        refine wp_seq_h ?_
        intro K1 HK1
        go_wp2_with fail
        apply HK1.out
        clear HK1
        refine wp_seq_h ?_
        intro K2 HK2
        refine wp_seq_h ?_
        intro K3 HK3
        go_quiet (fail)
        apply HK3.out
        clear HK3
        go_wp2_with fail
        apply HK2.out
        clear HK2
        refine wp_code (c := c19 [true, true, true, true, false, true, true, true, true, true, false, true, false, true, true]) (by kernel_rfl) (HX.out m2 (by omega) ?_ _ _ (F19e_at _ _ _ _ _ rfl ⟨rfl, rfl, rfl, rfl, rfl, rfl, trivial⟩) ((HN1.out.gbn (gb_drewN (World.grownBy.refl _ _) _)).at1 m2))
        unfold nC; rw [if_pos ⟨by omega, by rw [hm, HCB.out]; omega⟩]; omega
      · have g3 : ((c : Int) == 45) = false := by simp; omega
        refine wp_seq_h ?_
        intro K1 HK1
        go_wp2_with fail
        apply HK1.out
        clear HK1
        refine wp_seq_h ?_
        intro K2 HK2
        refine wp_seq_h ?_
        intro K3 HK3
        go_quiet (fail)
        apply HK3.out
        clear HK3
        go_wp2_with fail
        apply HK2.out
        clear HK2
        refine wp_code (c := c19 [true, true, true, true, false, true, true, true, true, true, false, true, false, true, true]) (by kernel_rfl) (HX.out m (by omega) ?_ _ _ (F19e_at _ _ _ _ _ rfl ⟨rfl, rfl, rfl, rfl, rfl, rfl, trivial⟩) (HN1.out.gbn (gb_drewN (World.grownBy.refl _ _) _)))
        unfold nC; rw [if_neg (by rw [hm, HCB.out]; omega)]; omega
  · have g1 : decide ((m : Int) < s.size) = false := decide_eq_false (by omega)
    refine wp_seq_h ?_
    intro K1 HK1
    go_wp2_with fail
    apply HK1.out
    clear HK1
    refine wp_seq_h ?_
    intro K2 HK2
    refine wp_seq_h ?_
    intro K3 HK3
    go_quiet (fail)
    apply HK3.out
    clear HK3
    go_wp2_with fail
    apply HK2.out
    clear HK2
    refine wp_code (c := c19 [true, true, true, true, false, true, true, true, true, true, false, true, false, true, true]) (by kernel_rfl) (HX.out m (by omega) ?_ _ _ (F19e_at _ _ _ _ _ rfl ⟨rfl, rfl, rfl, rfl, rfl, rfl, trivial⟩) (HN1.out.gbn (gb_drewN (World.grownBy.refl _ _) _)))
    unfold nC; rw [if_neg (by omega)]; omega
set_option maxRecDepth 100000

theorem nAC_le {s : ByteArray} {q : Nat} (h : q < s.size) : q ≤ nA s (nC s q) ∧ nA s (nC s q) ≤ s.size := by
  have hc : q ≤ nC s q ∧ nC s q ≤ s.size := by unfold nC; split <;> omega
  have := spn_b dgP s s.size (nC s q) hc.2
  exact ⟨Nat.le_trans hc.1 this.1, this.2⟩
set_option maxHeartbeats 2000000 in
theorem n19_e3 (B b bx bs : Nat) (T : World → Prop) (hP : PfSaid T) (z op : Bool) (s : ByteArray) (p q : Nat) (Ts : List Tok) (D : List Int) (O : List (Bool × Int)) (w0 w : World) (K : Act → World → Prop) (Post : Ending → World → Prop) (a : Act)
    (ha : (F19e b z bx bs p fun k => a.tmps.getD k undef) = a) (hs : s.size ≤ 100) (hS : Stt s p) (hpq : p < q) (hq : q ≤ s.size) (hqe : q = nB s p) (hN : NE B b s w0 w q op Ts D O bx bs) (hT : ∀ w', Below B w0 w' → T w')
    (hbad : nX s q = none → ∀ w' d, p < d → d ≤ s.size → NE B b s w0 w' d true Ts D O bx bs → Post (.returned (.tuple #[])) w')
    (hfin : ∀ (a : Act) (w' : World) (d : Nat), nX s q = some d → NE B b s w0 w' d op Ts D O bx bs → (F19z b z bx bs p (numG (s.extract p d) (q - p)) fun k => a.tmps.getD k undef) = a → K a w') :
    Code.wp Tryd.prog (c19 [true, true, true, true, false, true, true, true, true, true]) (Exit.then K (bodyPost Tryd.prog Tryd.f19 Post)) a w := by
  have HE5 := Lib.hid fun (d : Nat) (hX : nX s q = some d) (a : Act) (w : World) (ha : (F19e b z bx bs p fun k => a.tmps.getD k undef) = a) (hN : NE B b s w0 w d op Ts D O bx bs) =>
    n19_e5 B b bx bs T hP z op s p d Ts D O w0 w K (bodyPost Tryd.prog Tryd.f19 Post) a ha hs hS (by rw [← hqe]; exact hX) hN hT (fun a w' hN' ha' => hfin a w' d hX hN' (by rw [hqe]; exact ha'))
  rw [← ha]
  clear ha
  generalize (fun k => a.tmps.getD k undef) = u
  conv => arg 2; whnf
  rw [F19e_lit, sg352_13, sg352_330]
  have HB := Lib.hid hbad
  have HN := Lib.hid hN
  clear hfin hN hbad hqe hT
  obtain ⟨c1, c4, c5, f1, f4⟩ := HN.out.cells
  have x2 := HN.out.x
  have x4 := HN.out.t
  refine wp_seq_h ?_
  intro K1 HK1
  refine wp_seq_h ?_
  intro K2 HK2
  have hno : Hid (¬ (q < s.size ∧ bt s q ||| 32 = 101) → ∀ (m : Nat) (a' : Act), (F19e b z bx bs p fun k => a'.tmps.getD k undef) = a' → K1 a' (w.drewN m)) := Lib.hid fun hn m a' he => HK1.out _ _ (wp_code (c := c19 [true, true, true, true, false, true, true, true, true, true, true]) (by kernel_rfl) (HE5.out q (by unfold nX; rw [if_neg hn]) a' _ he (HN.out.gbn (gb_drewN (World.grownBy.refl _ _) m))))
  by_cases hlt : q < s.size
  · obtain ⟨c, hc⟩ : ∃ c : Nat, s[q].toNat = c := ⟨_, rfl⟩
    have hcb : bt s q = c := by rw [bt_eq hlt, hc]
    have HCB := Lib.hid hcb
    have g1 : decide ((q : Int) < s.size) = true := decide_eq_true (by omega)
    have g0 : (q : Int) < s.size := by omega
    have g3 := or32 c (by rw [← hcb]; exact bt_lt s q)
    obtain ⟨o, ho⟩ : ∃ o, c ||| 32 = o := ⟨_, rfl⟩
    rw [ho] at g3
    have HO := Lib.hid ho
    clear hcb ho
    by_cases h101 : o = 101
    · have g2 : ((o : Int) == 101) = true := by simp; omega
      go_quiet (fail)
      apply HK2.out
      clear HK2
      refine wp_cond (t := true) rfl ?_
      rw [if_pos rfl]
      refine wp_code (c := c19 [true, true, true, true, false, true, true, true, true, true, false, true, false]) (by kernel_rfl) (Code.wp_mono (fun e a w h => ?_) (n19_x23 B b bx bs z op s p q Ts D O w0 _ K1 Post _ (F19e_at _ _ _ _ _ rfl ⟨rfl, rfl, rfl, rfl, rfl, rfl, trivial⟩) hs hlt (HN.out.gbn (gb_drewN (World.grownBy.refl _ _) _)) (fun h w' hN' => HB.out ?_ w' _ ?_ ?_ hN') (fun h a w' hN' ha' => HK1.out _ _ (wp_code (c := c19 [true, true, true, true, false, true, true, true, true, true, true]) (by kernel_rfl) (HE5.out _ ?_ a _ ha' hN')))))
      · cases e <;> exact h
      · unfold nX
        rw [if_pos ⟨hlt, by rw [HCB.out, HO.out]; exact h101⟩, if_pos h]
      · exact Nat.lt_of_lt_of_le hpq (nAC_le hlt).1
      · exact (nAC_le hlt).2
      · unfold nX
        rw [if_pos ⟨hlt, by rw [HCB.out, HO.out]; exact h101⟩, if_neg h]
    · have g2 : ((o : Int) == 101) = false := by simp; omega
      go_quiet (fail)
      apply HK2.out
      clear HK2
      go_wp2_with fail
      exact hno.out (by rw [HCB.out, HO.out]; omega) _ _ (F19e_at _ _ _ _ _ rfl ⟨rfl, rfl, rfl, rfl, rfl, rfl, trivial⟩)
  · have g1 : decide ((q : Int) < s.size) = false := decide_eq_false (by omega)
    go_quiet (fail)
    apply HK2.out
    clear HK2
    go_wp2_with fail
    exact hno.out (by omega) _ _ (F19e_at _ _ _ _ _ rfl ⟨rfl, rfl, rfl, rfl, rfl, rfl, trivial⟩)
set_option maxRecDepth 100000

set_option maxHeartbeats 2000000 in
theorem n19_e2 (B b bx bs : Nat) (T : World → Prop) (hP : PfSaid T) (z op : Bool) (s : ByteArray) (p r : Nat) (Ts : List Tok) (D : List Int) (O : List (Bool × Int)) (w0 w : World) (K : Act → World → Prop) (Post : Ending → World → Prop) (a : Act)
    (ha : (F19e b z bx bs p fun k => a.tmps.getD k undef) = a) (hs : s.size ≤ 100) (hS : Stt s p) (hpq : p < nB s p) (hr : r ≤ s.size) (hre : r = nA s p) (hN : NE B b s w0 w r op Ts D O bx bs) (hT : ∀ w', Below B w0 w' → T w')
    (hbad : nX s (nB s p) = none → ∀ w' d, p < d → d ≤ s.size → NE B b s w0 w' d true Ts D O bx bs → Post (.returned (.tuple #[])) w')
    (hfin : ∀ (a : Act) (w' : World) (d : Nat), nX s (nB s p) = some d → NE B b s w0 w' d op Ts D O bx bs → (F19z b z bx bs p (numG (s.extract p d) (nB s p - p)) fun k => a.tmps.getD k undef) = a → K a w') :
    Code.wp Tryd.prog (c19 [true, true, true, true, false, true, true, true, true]) (Exit.then K (bodyPost Tryd.prog Tryd.f19 Post)) a w := by
  have HE3 := Lib.hid fun (q : Nat) (hq : q = nB s p) (hqs : q ≤ s.size) (a : Act) (w : World) (ha : (F19e b z bx bs p fun k => a.tmps.getD k undef) = a) (hN : NE B b s w0 w q op Ts D O bx bs) =>
    n19_e3 B b bx bs T hP z op s p q Ts D O w0 w K Post a ha hs hS (by rw [hq]; exact hpq) hqs hq hN hT (by rw [hq]; exact hbad) (by rw [hq]; exact hfin)
  have HNB := Lib.hid (show nB s p = if r < s.size ∧ bt s r = 46 then nA s (r + 1) else r by unfold nB; rw [← hre])
  rw [← ha]
  clear ha
  generalize (fun k => a.tmps.getD k undef) = u
  conv => arg 2; whnf
  rw [F19e_lit, sg352_13, sg352_330]
  have HN := Lib.hid hN
  clear hfin hN hbad hre hT hpq
  obtain ⟨c1, c4, c5, f1, f4⟩ := HN.out.cells
  have x2 := HN.out.x
  have x4 := HN.out.t
  refine wp_seq_h ?_
  intro K1 HK1
  refine wp_seq_h ?_
  intro K2 HK2
  have hno : Hid (¬ (r < s.size ∧ bt s r = 46) → ∀ (m : Nat) (a' : Act), (F19e b z bx bs p fun k => a'.tmps.getD k undef) = a' → K1 a' (w.drewN m)) := Lib.hid fun hn m a' he => HK1.out _ _ (wp_code (c := c19 [true, true, true, true, false, true, true, true, true, true]) (by kernel_rfl) (HE3.out r (by rw [HNB.out, if_neg hn]) hr a' _ he (HN.out.gbn (gb_drewN (World.grownBy.refl _ _) m))))
  by_cases hlt : r < s.size
  · obtain ⟨c, hc⟩ : ∃ c : Nat, s[r].toNat = c := ⟨_, rfl⟩
    have hcb : bt s r = c := by rw [bt_eq hlt, hc]
    have HCB := Lib.hid hcb
    have g1 : decide ((r : Int) < s.size) = true := decide_eq_true (by omega)
    have g0 : (r : Int) < s.size := by omega
    clear hcb
    by_cases h46 : c = 46
    · have g2 : ((c : Int) == 46) = true := by simp; omega
      obtain ⟨m, hm⟩ : ∃ m, r + 1 = m := ⟨_, rfl⟩
      have w2 : IntKind.i64.wrap ((r : Int) + 1) = (m : Int) := by rw [show (r : Int) + 1 = (m : Int) by omega]; exact IntWalk.i64_in _ (by omega)
      have hms : m ≤ s.size := by omega
      have HC := Lib.hid fun (w : World) (hN : NE B b s w0 w m op Ts D O bx bs) => rund_ne hN hs hms
      go_quiet (fail)
      apply HK2.out
      clear HK2
      go_wp2_with (go_at_call 26; refine (HC.out _ ((HN.out.gbn (gb_drewN (World.grownBy.refl _ _) _)).at1 m)).mono ?_; rintro e1 w1 ⟨rfl, hN1⟩; have HN1 := Lib.hid hN1; clear hN1)
      exact HK1.out _ _ (wp_code (c := c19 [true, true, true, true, false, true, true, true, true, true]) (by kernel_rfl) (HE3.out (nA s m) (by rw [HNB.out, if_pos ⟨hlt, by rw [HCB.out]; exact h46⟩, hm]) (spn_b dgP s s.size m hms).2 _ _ (F19e_at _ _ _ _ _ rfl ⟨rfl, rfl, rfl, rfl, rfl, rfl, trivial⟩) HN1.out))
    · have g2 : ((c : Int) == 46) = false := by simp; omega
      go_quiet (fail)
      apply HK2.out
      clear HK2
      go_wp2_with fail
      exact hno.out (by rw [HCB.out]; omega) _ _ (F19e_at _ _ _ _ _ rfl ⟨rfl, rfl, rfl, rfl, rfl, rfl, trivial⟩)
  · have g1 : decide ((r : Int) < s.size) = false := decide_eq_false (by omega)
    go_quiet (fail)
    apply HK2.out
    clear HK2
    go_wp2_with fail
    exact hno.out (by omega) _ _ (F19e_at _ _ _ _ _ rfl ⟨rfl, rfl, rfl, rfl, rfl, rfl, trivial⟩)
set_option maxRecDepth 100000

set_option maxHeartbeats 2000000 in
theorem n19_e0 (B b bx bs : Nat) (T : World → Prop) (hP : PfSaid T) (z op : Bool) (s : ByteArray) (p : Nat) (Ts : List Tok) (D : List Int) (O : List (Bool × Int)) (w0 w : World) (K : Act → World → Prop) (Post : Ending → World → Prop) (a : Act)
    (ha : (F19e b z bx bs p fun k => a.tmps.getD k undef) = a) (hs : s.size ≤ 100) (hS : Stt s p) (hp : p < s.size) (hpq : p < nB s p) (hN : NE B b s w0 w p op Ts D O bx bs) (hT : ∀ w', Below B w0 w' → T w')
    (hbad : (p + 1 < nA s p ∧ bt s p = 48) ∨ nX s (nB s p) = none → ∀ w' d, p < d → d ≤ s.size → NE B b s w0 w' d true Ts D O bx bs → Post (.returned (.tuple #[])) w')
    (hfin : ¬ (p + 1 < nA s p ∧ bt s p = 48) → ∀ (a : Act) (w' : World) (d : Nat), nX s (nB s p) = some d → NE B b s w0 w' d op Ts D O bx bs → (F19z b z bx bs p (numG (s.extract p d) (nB s p - p)) fun k => a.tmps.getD k undef) = a → K a w') :
    Code.wp Tryd.prog (c19 [true, true, true, true, false, true, true]) (Exit.then K (bodyPost Tryd.prog Tryd.f19 Post)) a w := by
  obtain ⟨r, hr⟩ : ∃ r, nA s p = r := ⟨_, rfl⟩
  have hrs : r ≤ s.size := by rw [← hr]; exact (spn_b dgP s s.size p (by omega)).2
  have hpr : p ≤ r := by rw [← hr]; exact (spn_b dgP s s.size p (by omega)).1
  have HE2 := Lib.hid fun (hn : ¬ (p + 1 < r ∧ bt s p = 48)) (a : Act) (w : World) (ha : (F19e b z bx bs p fun k => a.tmps.getD k undef) = a) (hN : NE B b s w0 w r op Ts D O bx bs) =>
    n19_e2 B b bx bs T hP z op s p r Ts D O w0 w K Post a ha hs hS hpq hrs hr.symm hN hT (fun h => hbad (Or.inr h)) (hfin (by rw [hr]; exact hn))
  have HB := Lib.hid hbad
  have HC := Lib.hid (rund_ne hN hs (by omega))
  rw [hr] at HC
  have HR := Lib.hid hr
  obtain ⟨n, hn⟩ : ∃ n, r - p = n := ⟨_, rfl⟩
  rw [hn] at HC
  rw [← ha]
  clear ha
  generalize (fun k => a.tmps.getD k undef) = u
  conv => arg 2; whnf
  rw [F19e_lit, sg352_13, sg352_330]
  clear hfin hN hbad hr hT hpq
  obtain ⟨c, hc⟩ : ∃ c : Nat, s[p].toNat = c := ⟨_, rfl⟩
  have hcb : bt s p = c := by rw [bt_eq hp, hc]
  have HCB := Lib.hid hcb
  have g0 : (p : Int) < s.size := by omega
  clear hcb
  refine wp_seq_h ?_
  intro K1 HK1
  go_wp2_with (go_at_call 26; refine HC.out.mono ?_; rintro e1 w1 ⟨rfl, hN1⟩; have HN := Lib.hid hN1; obtain ⟨c1, c4, c5, f1, f4⟩ := hN1.cells; have x2 := hN1.x; have x4 := hN1.t; clear hN1)
  apply HK1.out
  clear HK1
  refine wp_seq_h ?_
  intro K2 HK2
  have hno : Hid (¬ (p + 1 < r ∧ bt s p = 48) → ∀ (a' : Act), (F19e b z bx bs p fun k => a'.tmps.getD k undef) = a' → K2 a' w1) := Lib.hid fun hn a' he => HK2.out _ _ (wp_code (c := c19 [true, true, true, true, false, true, true, true, true]) (by kernel_rfl) (HE2.out hn a' _ he HN.out))
  by_cases hn1 : 1 < n
  · have g1 : decide ((n : Int) > 1) = true := decide_eq_true (by omega)
    by_cases h48 : c = 48
    · have g2 : ((c : Int) == 48) = true := by simp; omega
      go_wp2_with fail
      go_end0
      exact HB.out (Or.inl ⟨by rw [HR.out]; omega, by rw [HCB.out]; exact h48⟩) _ r (by omega) hrs HN.out.op1
    · have g2 : ((c : Int) == 48) = false := by simp; omega
      go_wp2_with fail
      exact hno.out (by rw [HCB.out]; omega) _ (F19e_at _ _ _ _ _ rfl ⟨rfl, rfl, rfl, rfl, rfl, rfl, trivial⟩)
  · have g1 : decide ((n : Int) > 1) = false := decide_eq_false (by omega)
    go_wp2_with fail
    exact hno.out (by omega) _ (F19e_at _ _ _ _ _ rfl ⟨rfl, rfl, rfl, rfl, rfl, rfl, trivial⟩)
end Go.Proofs.YtblphppdfiipfaaDoor
