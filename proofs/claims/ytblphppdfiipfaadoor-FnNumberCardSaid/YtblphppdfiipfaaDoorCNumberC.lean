/- The lexer takes a number: one in hex. Conditions: none. -/
import Derived.Test.YtblphppdfiipfaaDoorCNumberB
namespace Go.Proofs.YtblphppdfiipfaaDoor
open Go.RowKit
set_option maxRecDepth 100000

/-- what each operation lays: the call of ParseUint -/
def exU (b : Nat) (s tx : ByteArray) (p d : Nat) (kk : Int) (v er : Value) : Nat → Option (Nat × Value)
  | 0 => some (100, .string s)
  | 1 => some (101, .int .i64 p)
  | 2 => some (102, .pointer (some ⟨b, 0, none⟩))
  | 3 => some (103, .pointer (some ⟨b, 0, none⟩))
  | 4 => some (104, .pointer (some ⟨b, 1, none⟩))
  | 5 => some (105, .int .i64 d)
  | 6 => some (106, .string tx)
  | 7 => some (107, .int .i64 kk)
  | 8 => some (108, .tuple #[v, er])
  | 9 => some (99, .tuple #[v, er])
  | 10 => some (109, v)
  | 11 => some (110, er)
  | 12 => some (11, v)
  | 13 => some (12, er)
  | _ => none
/-- the slots of the operations -/
def slU (i : Nat) : Nat := if i ≤ 8 then 100 + i else if i = 9 then 99 else if i ≤ 11 then 99 + i else i - 1
theorem exU_slot {b : Nat} {s tx : ByteArray} {p d : Nat} {kk : Int} {v er : Value} {i : Nat} {x : Nat × Value} (h : exU b s tx p d kk v er i = some x) : x.1 = slU i ∧ i < 14 := by
  unfold exU at h
  split at h <;> simp at h <;> subst h <;> simp [slU]
theorem hSU (k : Nat) : (k ≤ 8 → slU k = 100 + k) ∧ (k = 9 → slU k = 99) ∧ (k = 10 → slU k = 109) ∧ (k = 11 → slU k = 110) ∧ (k = 12 → slU k = 11) ∧ (k = 13 → slU k = 12) := by
  refine ⟨fun h => ?_, fun h => ?_, fun h => ?_, fun h => ?_, fun h => ?_, fun h => ?_⟩
  · unfold slU; rw [if_pos h]
  all_goals subst h; rfl
theorem exU_v {b : Nat} {s tx : ByteArray} {p d : Nat} {kk : Int} {v er v' er' : Value} {i : Nat} (h : i < 8) : exU b s tx p d kk v er i = exU b s tx p d kk v' er' i := by
  unfold exU
  split <;> first
    | rfl
    | omega
structure WorldU (W w : World) (L : Array Bool) : Prop where
  st : L.getD 8 false = false → w = W
  g : W.grownBy w none
  c8 : L.getD 8 false = true → ∀ k, k < 8 → L.getD k false = true
  c6 : L.getD 6 false = true → ∀ k, k < 6 → L.getD k false = true
  c5 : L.getD 5 false = true → L.getD 4 false = true ∧ L.getD 3 false = true ∧ L.getD 2 false = true
  c4 : L.getD 4 false = true → L.getD 3 false = true ∧ L.getD 2 false = true
  c3 : L.getD 3 false = true → L.getD 2 false = true
  c9 : L.getD 9 false = true → L.getD 8 false = true
  c10 : L.getD 10 false = true → L.getD 8 false = true
  c11 : L.getD 11 false = true → L.getD 8 false = true
  c12 : L.getD 12 false = true → L.getD 8 false = true
  c13 : L.getD 13 false = true → L.getD 8 false = true
theorem WorldU.n8 {W w : World} {L : Array Bool} (h : WorldU W w L) {k : Nat} (hl : L.getD k false = false) (hk : k < 8) : L.getD 8 false = false := by
  cases e : L.getD 8 false with
  | false => rfl
  | true => exact absurd (h.c8 e k hk) (by rw [hl]; simp)
theorem WorldU.mk2 {W w w' : World} {L : Array Bool} (h : WorldU W w L) (hL : L.size = 14) (i : Nat) (hi : i < 14) (hg : W.grownBy w' none) (hst : i ≠ 8 → L.getD 8 false = false → w' = W)
    (hd8 : i = 8 → ∀ k, k < 8 → L.getD k false = true) (hd6 : i = 6 → ∀ k, k < 6 → L.getD k false = true) (hd5 : i = 5 → L.getD 4 false = true ∧ L.getD 3 false = true ∧ L.getD 2 false = true) (hd4 : i = 4 → L.getD 3 false = true ∧ L.getD 2 false = true) (hd3 : i = 3 → L.getD 2 false = true)
    (hd9 : 9 ≤ i → L.getD 8 false = true) : WorldU W w' (L.setIfInBounds i true) := by
  have g0 := lset_getG hL i hi
  have up : ∀ k, L.getD k false = true → (L.setIfInBounds i true).getD k false = true := fun k hk => by rw [g0]; split <;> simp [*]
  have dn : ∀ k, k ≠ i → (L.setIfInBounds i true).getD k false = true → L.getD k false = true := fun k hk h => by rwa [g0, if_neg hk] at h
  have late : ∀ k, (9 ≤ k) → (L.getD k false = true → L.getD 8 false = true) → (L.setIfInBounds i true).getD k false = true → (L.setIfInBounds i true).getD 8 false = true := fun k hk h e => by
    by_cases h7 : k = i
    · exact up _ (hd9 (by omega))
    · exact up _ (h (dn k h7 e))
  refine ⟨fun e => ?_, hg, fun e k hk => ?_, fun e k hk => ?_, fun e => ?_, fun e => ?_, fun e => ?_, late 9 (by omega) h.c9, late 10 (by omega) h.c10, late 11 (by omega) h.c11, late 12 (by omega) h.c12, late 13 (by omega) h.c13⟩
  · rw [g0] at e
    by_cases h7 : 8 = i
    · rw [if_pos h7] at e; exact absurd e (by simp)
    · rw [if_neg h7] at e; exact hst (fun h => h7 h.symm) e
  · by_cases h7 : 8 = i
    · exact up k (hd8 h7.symm k hk)
    · exact up k (h.c8 (dn 8 h7 e) k hk)
  · by_cases h7 : 6 = i
    · exact up k (hd6 h7.symm k hk)
    · exact up k (h.c6 (dn 6 h7 e) k hk)
  · by_cases h7 : 5 = i
    · exact ⟨up _ (hd5 h7.symm).1, up _ (hd5 h7.symm).2.1, up _ (hd5 h7.symm).2.2⟩
    · have := h.c5 (dn 5 h7 e); exact ⟨up _ this.1, up _ this.2.1, up _ this.2.2⟩
  · by_cases h7 : 4 = i
    · exact ⟨up _ (hd4 h7.symm).1, up _ (hd4 h7.symm).2⟩
    · have := h.c4 (dn 4 h7 e); exact ⟨up _ this.1, up _ this.2⟩
  · by_cases h7 : 3 = i
    · exact up _ (hd3 h7.symm)
    · exact up _ (h.c3 (dn 3 h7 e))

set_option maxHeartbeats 2000000 in
theorem region10_any (b bx bs b8 : Nat) (s : ByteArray) (p d : Nat) (kk : Int) (R : Value → Value → Prop) (a0 : Act) (w0 : World) (Q : Exit → Act → World → Prop) (hz : a0.tmps.size = 352) (hd : a0.defers = [])
    (h2 : a0.tmps.getD 2 undef = .pointer (some ⟨bx, 0, none⟩)) (h4 : a0.tmps.getD 4 undef = .pointer (some ⟨bs, 0, none⟩)) (h5 : a0.tmps.getD 5 undef = .int .i64 p) (h8 : a0.tmps.getD 8 undef = .pointer (some ⟨b8, 0, none⟩))
    (hbx0 : w0.cell? ⟨bx, 0, none⟩ = some (.pointer (some ⟨b, 0, none⟩))) (hbs0 : w0.cell? ⟨bs, 0, none⟩ = some (.string s)) (hc10 : w0.cell? ⟨b, 1, none⟩ = some (.int .i64 d)) (hc80 : w0.cell? ⟨b8, 0, none⟩ = some (.int .i64 kk))
    (hpd : p ≤ d) (hds : d ≤ s.size)
    (hcall0 : Calls Tryd.prog 29 #[.string (s.extract p d), .int .i64 kk, .int .i64 64] { w0 with drawn := w0.drawn + 1 } fun e w' => ∃ v er, e = .returned (.tuple #[v, er]) ∧ ({ w0 with drawn := w0.drawn + 1 } : World).grownBy w' none ∧ R v er)
    (hfin : ∀ (a' : Act) (w' : World) (v er : Value), R v er → a'.tmps.size = 352 → a'.defers = [] → (∀ j, j < 11 → a'.tmps.getD j undef = a0.tmps.getD j undef) → a'.tmps.getD 11 undef = v → a'.tmps.getD 12 undef = er → w0.grownBy w' none → Q .normal a' w') :
    Code.wp Tryd.prog (c19 [true, true, true, true, false, true, false, true, true, true, true, true, false]) Q a0 w0 := by
  have s1 : (p : Int) ≤ d := by omega
  have s2 : (d : Int) ≤ s.size := by omega
  have s3 : (0 : Int) ≤ p := by omega
  obtain ⟨tx, htx⟩ : ∃ tx, tx = s.extract p d := ⟨_, rfl⟩
  rw [← htx] at hcall0
  obtain ⟨W, hWW⟩ : ∃ W : World, W = { w0 with drawn := w0.drawn + 1 } := ⟨_, rfl⟩
  have hbx : W.cell? ⟨bx, 0, none⟩ = some (.pointer (some ⟨b, 0, none⟩)) := by rw [hWW]; exact hbx0
  have hbs : W.cell? ⟨bs, 0, none⟩ = some (.string s) := by rw [hWW]; exact hbs0
  have hc1 : W.cell? ⟨b, 1, none⟩ = some (.int .i64 d) := by rw [hWW]; exact hc10
  have hc8 : W.cell? ⟨b8, 0, none⟩ = some (.int .i64 kk) := by rw [hWW]; exact hc80
  have hgW : w0.grownBy W none := by rw [hWW]; exact gb_drewN (World.grownBy.refl _ _) 1
  rw [← hWW] at hcall0
  conv => arg 2; whnf
  refine wp_region_inv (by kernel_rfl) (fun L a w => L.size = 14 ∧ ∃ v er, SlotG 14 352 11 110 (exU b s tx p d kk v er) L a0 a ∧ (L.getD 8 false = true → R v er) ∧ WorldU W w L) ?_ ?_ ?_ ?_
  · rw [← hWW]
    exact ⟨by simp, undef, undef, ⟨hd, hz, fun _ _ => rfl, fun i x hi hl _ => absurd hl (repF _ i)⟩, fun h => absurd h (repF _ _), ⟨fun _ => rfl, World.grownBy.refl _ _, fun h => absurd h (repF _ _), fun h => absurd h (repF _ _), fun h => absurd h (repF _ _), fun h => absurd h (repF _ _), fun h => absurd h (repF _ _), fun h => absurd h (repF _ _), fun h => absurd h (repF _ _), fun h => absurd h (repF _ _), fun h => absurd h (repF _ _), fun h => absurd h (repF _ _)⟩⟩
  · intro i o ho
    have hi : i < 14 := by
      have := (Array.getElem?_eq_some_iff.1 ho).1
      simpa using this
    have hcases : i = 0 ∨ i = 1 ∨ i = 2 ∨ i = 3 ∨ i = 4 ∨ i = 5 ∨ i = 6 ∨ i = 7 ∨ i = 8 ∨ i = 9 ∨ i = 10 ∨ i = 11 ∨ i = 12 ∨ i = 13 := by omega
    rcases hcases with rfl | rfl | rfl | rfl | rfl | rfl | rfl | rfl | rfl | rfl | rfl | rfl | rfl | rfl
    all_goals
      injection ho with ho
      subst ho
      decide +kernel
  · intro L a w i oo hLs hoo hl hdep ⟨hL, v, er, hA, hR7, hW⟩ K hK
    have hi : i < 14 := by
      have := (Array.getElem?_eq_some_iff.1 hoo).1
      simpa using this
    have hcall := hcall0
    have hR : ∀ {j : Nat}, j ≠ 8 → ((L.setIfInBounds j true).getD 8 false = true → R v er) := fun {j} hj h => hR7 (by
      by_cases hj14 : j < 14
      · rwa [lset_getG hL j hj14, if_neg (fun e => hj e.symm)] at h
      · rw [Array.setIfInBounds_eq_of_size_le (by omega)] at h; exact h)
    have hcases : i = 0 ∨ i = 1 ∨ i = 2 ∨ i = 3 ∨ i = 4 ∨ i = 5 ∨ i = 6 ∨ i = 7 ∨ i = 8 ∨ i = 9 ∨ i = 10 ∨ i = 11 ∨ i = 12 ∨ i = 13 := by omega
    rcases hcases with rfl | rfl | rfl | rfl | rfl | rfl | rfl | rfl | rfl | rfl | rfl | rfl | rfl | rfl
    · injection hoo with hoo
      subst hoo
      rw [if_pos (by rfl)]
      have hw := hW.st (hW.n8 hl (by omega))
      have kx := (hw ▸ hbx : w.cell? ⟨bx, 0, none⟩ = _)
      have ks := (hw ▸ hbs : w.cell? ⟨bs, 0, none⟩ = _)
      have k1 := (hw ▸ hc1 : w.cell? ⟨b, 1, none⟩ = _)
      have k8 := (hw ▸ hc8 : w.cell? ⟨b8, 0, none⟩ = _)
      have r4 := (hA.far 4 (by omega)).trans h4
      unfold Oper.wp
      simp [execOp, go_sem, r4, ks]
      exact hK _ _ ⟨by simpa using hL, v, er, hA.put hL 0 (by omega) (100, _) rfl (by omega) (by omega) (by omega) (fun _ _ _ _ => rfl) (fun k y h1 h2 => by have := exU_slot h2; have hk := hSU k; show y.1 ≠ 100; omega), hR (by omega), hW.mk2 hL 0 (by omega) hW.g (fun _ h => hW.st h) (fun h => absurd h (by omega)) (fun h => absurd h (by omega)) (fun h => absurd h (by omega)) (fun h => absurd h (by omega)) (fun h => absurd h (by omega)) (fun h => absurd h (by omega))⟩
    · injection hoo with hoo
      subst hoo
      rw [if_pos (by rfl)]
      have r5 := (hA.far 5 (by omega)).trans h5
      unfold Oper.wp
      simp [execOp, go_sem, r5]
      exact hK _ _ ⟨by simpa using hL, v, er, hA.put hL 1 (by omega) (101, _) rfl (by omega) (by omega) (by omega) (fun _ _ _ _ => rfl) (fun k y h1 h2 => by have := exU_slot h2; have hk := hSU k; show y.1 ≠ 101; omega), hR (by omega), hW.mk2 hL 1 (by omega) hW.g (fun _ h => hW.st h) (fun h => absurd h (by omega)) (fun h => absurd h (by omega)) (fun h => absurd h (by omega)) (fun h => absurd h (by omega)) (fun h => absurd h (by omega)) (fun h => absurd h (by omega))⟩
    · injection hoo with hoo
      subst hoo
      rw [if_pos (by rfl)]
      have hw := hW.st (hW.n8 hl (by omega))
      have kx := (hw ▸ hbx : w.cell? ⟨bx, 0, none⟩ = _)
      have ks := (hw ▸ hbs : w.cell? ⟨bs, 0, none⟩ = _)
      have k1 := (hw ▸ hc1 : w.cell? ⟨b, 1, none⟩ = _)
      have k8 := (hw ▸ hc8 : w.cell? ⟨b8, 0, none⟩ = _)
      have r2 := (hA.far 2 (by omega)).trans h2
      unfold Oper.wp
      simp [execOp, go_sem, r2, kx]
      exact hK _ _ ⟨by simpa using hL, v, er, hA.put hL 2 (by omega) (102, _) rfl (by omega) (by omega) (by omega) (fun _ _ _ _ => rfl) (fun k y h1 h2 => by have := exU_slot h2; have hk := hSU k; show y.1 ≠ 102; omega), hR (by omega), hW.mk2 hL 2 (by omega) hW.g (fun _ h => hW.st h) (fun h => absurd h (by omega)) (fun h => absurd h (by omega)) (fun h => absurd h (by omega)) (fun h => absurd h (by omega)) (fun h => absurd h (by omega)) (fun h => absurd h (by omega))⟩
    · injection hoo with hoo
      subst hoo
      rw [if_pos (by rfl)]
      have q102 : a.tmps.getD 102 undef = .pointer (some ⟨b, 0, none⟩) := hA.at_ 2 (102, _) (by omega) (hdep { on := 2, ground := .data } (by simp) rfl) rfl
      unfold Oper.wp
      simp [execOp, go_sem, q102]
      exact hK _ _ ⟨by simpa using hL, v, er, hA.put hL 3 (by omega) (103, _) rfl (by omega) (by omega) (by omega) (fun _ _ _ _ => rfl) (fun k y h1 h2 => by have := exU_slot h2; have hk := hSU k; show y.1 ≠ 103; omega), hR (by omega), hW.mk2 hL 3 (by omega) hW.g (fun _ h => hW.st h) (fun h => absurd h (by omega)) (fun h => absurd h (by omega)) (fun h => absurd h (by omega)) (fun h => absurd h (by omega)) (fun _ => (hdep { on := 2, ground := .data } (by simp) rfl)) (fun h => absurd h (by omega))⟩
    · injection hoo with hoo
      subst hoo
      rw [if_pos (by rfl)]
      have q103 : a.tmps.getD 103 undef = .pointer (some ⟨b, 0, none⟩) := hA.at_ 3 (103, _) (by omega) (hdep { on := 3, ground := .data } (by simp) rfl) rfl
      unfold Oper.wp
      simp [execOp, go_sem, q103]
      exact hK _ _ ⟨by simpa using hL, v, er, hA.put hL 4 (by omega) (104, _) rfl (by omega) (by omega) (by omega) (fun _ _ _ _ => rfl) (fun k y h1 h2 => by have := exU_slot h2; have hk := hSU k; show y.1 ≠ 104; omega), hR (by omega), hW.mk2 hL 4 (by omega) hW.g (fun _ h => hW.st h) (fun h => absurd h (by omega)) (fun h => absurd h (by omega)) (fun h => absurd h (by omega)) (fun _ => ⟨(hdep { on := 3, ground := .data } (by simp) rfl), hW.c3 (hdep { on := 3, ground := .data } (by simp) rfl)⟩) (fun h => absurd h (by omega)) (fun h => absurd h (by omega))⟩
    · injection hoo with hoo
      subst hoo
      rw [if_pos (by rfl)]
      have hw := hW.st (hW.n8 hl (by omega))
      have kx := (hw ▸ hbx : w.cell? ⟨bx, 0, none⟩ = _)
      have ks := (hw ▸ hbs : w.cell? ⟨bs, 0, none⟩ = _)
      have k1 := (hw ▸ hc1 : w.cell? ⟨b, 1, none⟩ = _)
      have k8 := (hw ▸ hc8 : w.cell? ⟨b8, 0, none⟩ = _)
      have q104 : a.tmps.getD 104 undef = .pointer (some ⟨b, 1, none⟩) := hA.at_ 4 (104, _) (by omega) (hdep { on := 4, ground := .data } (by simp) rfl) rfl
      unfold Oper.wp
      simp [execOp, go_sem, q104, k1]
      exact hK _ _ ⟨by simpa using hL, v, er, hA.put hL 5 (by omega) (105, _) rfl (by omega) (by omega) (by omega) (fun _ _ _ _ => rfl) (fun k y h1 h2 => by have := exU_slot h2; have hk := hSU k; show y.1 ≠ 105; omega), hR (by omega), hW.mk2 hL 5 (by omega) hW.g (fun _ h => hW.st h) (fun h => absurd h (by omega)) (fun h => absurd h (by omega)) (fun _ => ⟨(hdep { on := 4, ground := .data } (by simp) rfl), (hW.c4 (hdep { on := 4, ground := .data } (by simp) rfl)).1, (hW.c4 (hdep { on := 4, ground := .data } (by simp) rfl)).2⟩) (fun h => absurd h (by omega)) (fun h => absurd h (by omega)) (fun h => absurd h (by omega))⟩
    · injection hoo with hoo
      subst hoo
      rw [if_pos (by rfl)]
      have q100 : a.tmps.getD 100 undef = .string s := hA.at_ 0 (100, _) (by omega) (hdep { on := 0, ground := .data } (by simp) rfl) rfl
      have q101 : a.tmps.getD 101 undef = .int .i64 p := hA.at_ 1 (101, _) (by omega) (hdep { on := 1, ground := .data } (by simp) rfl) rfl
      have q105 : a.tmps.getD 105 undef = .int .i64 d := hA.at_ 5 (105, _) (by omega) (hdep { on := 5, ground := .data } (by simp) rfl) rfl
      unfold Oper.wp
      simp [execOp, go_sem, q100, q101, q105, s1, s2, s3]
      rw [← htx]
      exact hK _ _ ⟨by simpa using hL, v, er, hA.put hL 6 (by omega) (106, _) rfl (by omega) (by omega) (by omega) (fun _ _ _ _ => rfl) (fun k y h1 h2 => by have := exU_slot h2; have hk := hSU k; show y.1 ≠ 106; omega), hR (by omega), hW.mk2 hL 6 (by omega) hW.g (fun _ h => hW.st h) (fun h => absurd h (by omega)) (fun _ k hk => by
        have h5 := hW.c5 (hdep { on := 5, ground := .data } (by simp) rfl)
        have hc : k = 0 ∨ k = 1 ∨ k = 2 ∨ k = 3 ∨ k = 4 ∨ k = 5 := by omega
        rcases hc with rfl | rfl | rfl | rfl | rfl | rfl
        · exact (hdep { on := 0, ground := .data } (by simp) rfl)
        · exact (hdep { on := 1, ground := .data } (by simp) rfl)
        · exact h5.2.2
        · exact h5.2.1
        · exact h5.1
        · exact (hdep { on := 5, ground := .data } (by simp) rfl)) (fun h => absurd h (by omega)) (fun h => absurd h (by omega)) (fun h => absurd h (by omega)) (fun h => absurd h (by omega))⟩
    · injection hoo with hoo
      subst hoo
      rw [if_pos (by rfl)]
      have hw := hW.st (hW.n8 hl (by omega))
      have kx := (hw ▸ hbx : w.cell? ⟨bx, 0, none⟩ = _)
      have ks := (hw ▸ hbs : w.cell? ⟨bs, 0, none⟩ = _)
      have k1 := (hw ▸ hc1 : w.cell? ⟨b, 1, none⟩ = _)
      have k8 := (hw ▸ hc8 : w.cell? ⟨b8, 0, none⟩ = _)
      have r8 := (hA.far 8 (by omega)).trans h8
      unfold Oper.wp
      simp [execOp, go_sem, r8, k8]
      exact hK _ _ ⟨by simpa using hL, v, er, hA.put hL 7 (by omega) (107, _) rfl (by omega) (by omega) (by omega) (fun _ _ _ _ => rfl) (fun k y h1 h2 => by have := exU_slot h2; have hk := hSU k; show y.1 ≠ 107; omega), hR (by omega), hW.mk2 hL 7 (by omega) hW.g (fun _ h => hW.st h) (fun h => absurd h (by omega)) (fun h => absurd h (by omega)) (fun h => absurd h (by omega)) (fun h => absurd h (by omega)) (fun h => absurd h (by omega)) (fun h => absurd h (by omega))⟩
    · injection hoo with hoo
      subst hoo
      rw [if_pos (by rfl)]
      have q106 : a.tmps.getD 106 undef = .string tx := hA.at_ 6 (106, _) (by omega) (hdep { on := 6, ground := .data } (by simp) rfl) rfl
      have q107 : a.tmps.getD 107 undef = .int .i64 kk := hA.at_ 7 (107, _) (by omega) (hdep { on := 7, ground := .data } (by simp) rfl) rfl
      have hw := hW.st hl
      subst hw
      have h6 := hW.c6 (hdep { on := 6, ground := .data } (by simp) rfl)
      unfold Oper.wp
      simp [execOp, go_sem, q106, q107]
      refine hcall.mono ?_
      rintro e w' ⟨v', er', rfl, hG, hv'⟩
      exact hK _ _ ⟨by simpa using hL, v', er', hA.put (ex' := exU b s tx p d kk v' er') hL 8 (by omega) (108, _) rfl (by omega) (by omega) (by omega) (fun k hk hk7 hlk => exU_v (by rcases (by omega : k < 8 ∨ k = 9 ∨ k = 10 ∨ k = 11 ∨ k = 12 ∨ k = 13) with h | h | h | h | h | h; exact h; all_goals (exfalso; subst h; first | exact absurd (hW.c9 hlk) (by rw [hl]; simp) | exact absurd (hW.c10 hlk) (by rw [hl]; simp) | exact absurd (hW.c11 hlk) (by rw [hl]; simp) | exact absurd (hW.c12 hlk) (by rw [hl]; simp) | exact absurd (hW.c13 hlk) (by rw [hl]; simp)))) (fun k y h1 h2 => by have := exU_slot h2; have hk := hSU k; show y.1 ≠ 108; omega), fun _ => hv', hW.mk2 hL 8 (by omega) hG (fun h => absurd rfl h) (fun _ k hk => by rcases (by omega : k < 6 ∨ k = 6 ∨ k = 7) with h | h | h; exact h6 k h; rw [h]; exact (hdep { on := 6, ground := .data } (by simp) rfl); rw [h]; exact (hdep { on := 7, ground := .data } (by simp) rfl)) (fun h => absurd h (by omega)) (fun h => absurd h (by omega)) (fun h => absurd h (by omega)) (fun h => absurd h (by omega)) (fun h => absurd h (by omega))⟩
    · injection hoo with hoo
      subst hoo
      rw [if_pos (by rfl)]
      have q108 : a.tmps.getD 108 undef = .tuple #[v, er] := hA.at_ 8 (108, _) (by omega) (hdep { on := 8, ground := .data } (by simp) rfl) rfl
      unfold Oper.wp
      simp [execOp, go_sem, q108]
      exact hK _ _ ⟨by simpa using hL, v, er, hA.put hL 9 (by omega) (99, _) rfl (by omega) (by omega) (by omega) (fun _ _ _ _ => rfl) (fun k y h1 h2 => by have := exU_slot h2; have hk := hSU k; show y.1 ≠ 99; omega), hR (by omega), hW.mk2 hL 9 (by omega) hW.g (fun _ h => hW.st h) (fun h => absurd h (by omega)) (fun h => absurd h (by omega)) (fun h => absurd h (by omega)) (fun h => absurd h (by omega)) (fun h => absurd h (by omega)) (fun _ => (hdep { on := 8, ground := .data } (by simp) rfl))⟩
    · injection hoo with hoo
      subst hoo
      rw [if_pos (by rfl)]
      have q99 : a.tmps.getD 99 undef = .tuple #[v, er] := hA.at_ 9 (99, _) (by omega) (hdep { on := 9, ground := .data } (by simp) rfl) rfl
      unfold Oper.wp
      simp [execOp, go_sem, q99]
      exact hK _ _ ⟨by simpa using hL, v, er, hA.put hL 10 (by omega) (109, _) rfl (by omega) (by omega) (by omega) (fun _ _ _ _ => rfl) (fun k y h1 h2 => by have := exU_slot h2; have hk := hSU k; show y.1 ≠ 109; omega), hR (by omega), hW.mk2 hL 10 (by omega) hW.g (fun _ h => hW.st h) (fun h => absurd h (by omega)) (fun h => absurd h (by omega)) (fun h => absurd h (by omega)) (fun h => absurd h (by omega)) (fun h => absurd h (by omega)) (fun _ => hW.c9 (hdep { on := 9, ground := .data } (by simp) rfl))⟩
    · injection hoo with hoo
      subst hoo
      rw [if_pos (by rfl)]
      have q99 : a.tmps.getD 99 undef = .tuple #[v, er] := hA.at_ 9 (99, _) (by omega) (hdep { on := 9, ground := .data } (by simp) rfl) rfl
      unfold Oper.wp
      simp [execOp, go_sem, q99]
      exact hK _ _ ⟨by simpa using hL, v, er, hA.put hL 11 (by omega) (110, _) rfl (by omega) (by omega) (by omega) (fun _ _ _ _ => rfl) (fun k y h1 h2 => by have := exU_slot h2; have hk := hSU k; show y.1 ≠ 110; omega), hR (by omega), hW.mk2 hL 11 (by omega) hW.g (fun _ h => hW.st h) (fun h => absurd h (by omega)) (fun h => absurd h (by omega)) (fun h => absurd h (by omega)) (fun h => absurd h (by omega)) (fun h => absurd h (by omega)) (fun _ => hW.c9 (hdep { on := 9, ground := .data } (by simp) rfl))⟩
    · injection hoo with hoo
      subst hoo
      rw [if_pos (by rfl)]
      have q109 : a.tmps.getD 109 undef = v := hA.at_ 10 (109, _) (by omega) (hdep { on := 10, ground := .data } (by simp) rfl) rfl
      unfold Oper.wp
      simp [execOp, go_sem, q109]
      exact hK _ _ ⟨by simpa using hL, v, er, hA.put hL 12 (by omega) (11, _) rfl (by omega) (by omega) (by omega) (fun _ _ _ _ => rfl) (fun k y h1 h2 => by have := exU_slot h2; have hk := hSU k; show y.1 ≠ 11; omega), hR (by omega), hW.mk2 hL 12 (by omega) hW.g (fun _ h => hW.st h) (fun h => absurd h (by omega)) (fun h => absurd h (by omega)) (fun h => absurd h (by omega)) (fun h => absurd h (by omega)) (fun h => absurd h (by omega)) (fun _ => hW.c10 (hdep { on := 10, ground := .data } (by simp) rfl))⟩
    · injection hoo with hoo
      subst hoo
      rw [if_pos (by rfl)]
      have q110 : a.tmps.getD 110 undef = er := hA.at_ 11 (110, _) (by omega) (hdep { on := 11, ground := .data } (by simp) rfl) rfl
      unfold Oper.wp
      simp [execOp, go_sem, q110]
      exact hK _ _ ⟨by simpa using hL, v, er, hA.put hL 13 (by omega) (12, _) rfl (by omega) (by omega) (by omega) (fun _ _ _ _ => rfl) (fun k y h1 h2 => by have := exU_slot h2; have hk := hSU k; show y.1 ≠ 12; omega), hR (by omega), hW.mk2 hL 13 (by omega) hW.g (fun _ h => hW.st h) (fun h => absurd h (by omega)) (fun h => absurd h (by omega)) (fun h => absurd h (by omega)) (fun h => absurd h (by omega)) (fun h => absurd h (by omega)) (fun _ => hW.c11 (hdep { on := 11, ground := .data } (by simp) rfl))⟩
  · intro L a w hall ⟨hL, v, er, hA, hR7, hW⟩
    have hall : ∀ i, i < 14 → L.getD i false = true := fun i hi => hall i (by simpa using hi)
    exact hfin a w v er (hR7 (hall 8 (by omega))) hA.z hA.d (fun j hj => hA.far j (by omega)) (hA.at_ 12 (11, _) (by omega) (hall 12 (by omega)) rfl) (hA.at_ 13 (12, _) (by omega) (hall 13 (by omega)) rfl) (Lib.grownBy_trans hgW hW.g)
set_option maxRecDepth 100000

def F19h (b : Nat) (z : Bool) (bx bs b8 : Nat)  : (Nat → Value) → Act := FG 352 [(0, .pointer (some ⟨b, 0, none⟩)), (1, .bool z), (2, .pointer (some ⟨bx, 0, none⟩)), (4, .pointer (some ⟨bs, 0, none⟩)), (6, .func (.func 26) #[] #[.pointer (some ⟨bx, 0, none⟩), .pointer (some ⟨bs, 0, none⟩)]), (8, .pointer (some ⟨b8, 0, none⟩))]
theorem F19h_lit (b : Nat) (z : Bool) (bx bs b8 : Nat) (u : Nat → Value) : F19h b  z  bx bs b8 u = { tmps := List.toArray (.pointer (some ⟨b, 0, none⟩) :: .bool z :: .pointer (some ⟨bx, 0, none⟩) :: u 3 :: .pointer (some ⟨bs, 0, none⟩) :: u 5 :: .func (.func 26) #[] #[.pointer (some ⟨bx, 0, none⟩), .pointer (some ⟨bs, 0, none⟩)] :: u 7 :: .pointer (some ⟨b8, 0, none⟩) :: u 9 :: u 10 :: u 11 :: u 12 :: sg352_13 u (u 329 :: sg352_330 u)), defers := [] } := by kernel_rfl
theorem F19h_at (b : Nat) (z : Bool) (bx bs b8 : Nat)  {L : List Value} (hl : L.length = 352) (hn : NmOk L [(0, .pointer (some ⟨b, 0, none⟩)), (1, .bool z), (2, .pointer (some ⟨bx, 0, none⟩)), (4, .pointer (some ⟨bs, 0, none⟩)), (6, .func (.func 26) #[] #[.pointer (some ⟨bx, 0, none⟩), .pointer (some ⟨bs, 0, none⟩)]), (8, .pointer (some ⟨b8, 0, none⟩))]) : (F19h b  z  bx bs b8 fun k => (Act.mk L.toArray []).tmps.getD k undef) = { tmps := L.toArray, defers := [] } := FG_at hl hn
def F19i (b : Nat) (z : Bool) (bx bs b8 : Nat) (p : Nat) (n : Nat)  : (Nat → Value) → Act := FG 352 [(0, .pointer (some ⟨b, 0, none⟩)), (1, .bool z), (2, .pointer (some ⟨bx, 0, none⟩)), (4, .pointer (some ⟨bs, 0, none⟩)), (5, .int .i64 p), (6, .func (.func 26) #[] #[.pointer (some ⟨bx, 0, none⟩), .pointer (some ⟨bs, 0, none⟩)]), (8, .pointer (some ⟨b8, 0, none⟩)), (10, .int .i64 n)]
theorem F19i_lit (b : Nat) (z : Bool) (bx bs b8 : Nat) (p : Nat) (n : Nat) (u : Nat → Value) : F19i b  z  bx bs b8  p  n u = { tmps := List.toArray (.pointer (some ⟨b, 0, none⟩) :: .bool z :: .pointer (some ⟨bx, 0, none⟩) :: u 3 :: .pointer (some ⟨bs, 0, none⟩) :: .int .i64 p :: .func (.func 26) #[] #[.pointer (some ⟨bx, 0, none⟩), .pointer (some ⟨bs, 0, none⟩)] :: u 7 :: .pointer (some ⟨b8, 0, none⟩) :: u 9 :: .int .i64 n :: u 11 :: u 12 :: sg352_13 u (u 329 :: sg352_330 u)), defers := [] } := by kernel_rfl
theorem F19i_at (b : Nat) (z : Bool) (bx bs b8 : Nat) (p : Nat) (n : Nat)  {L : List Value} (hl : L.length = 352) (hn : NmOk L [(0, .pointer (some ⟨b, 0, none⟩)), (1, .bool z), (2, .pointer (some ⟨bx, 0, none⟩)), (4, .pointer (some ⟨bs, 0, none⟩)), (5, .int .i64 p), (6, .func (.func 26) #[] #[.pointer (some ⟨bx, 0, none⟩), .pointer (some ⟨bs, 0, none⟩)]), (8, .pointer (some ⟨b8, 0, none⟩)), (10, .int .i64 n)]) : (F19i b  z  bx bs b8  p  n fun k => (Act.mk L.toArray []).tmps.getD k undef) = { tmps := L.toArray, defers := [] } := FG_at hl hn

@[go_sem]
theorem run_store_fn (P : Program) (w : World) (a : Addr) (m : Mode) (fn : Fn) (x y : Array Value) : (store a (.func fn x y) m).run P w = stored P w a (.func fn x y) m := run_store P w a _ m rfl
/-- the cell of the number's base stands -/
structure HB8 (w : World) (b b8 : Nat) (kk : Int) : Prop where
  c : w.cell? ⟨b8, 0, none⟩ = some (.int .i64 kk)
  n : b8 ≠ b

theorem runh_ne {B b b8 b9 : Nat} {kk : Int} {s : ByteArray} {w0 w : World} {d e : Nat} {op : Bool} {Ts : List Tok} {D : List Int} {O : List (Bool × Int)} {bx bs : Nat} (h : NE B b s w0 w d op Ts D O bx bs) (hs : s.size ≤ 100) (hd : d ≤ s.size)
    (h8 : w.cell? ⟨b8, 0, none⟩ = some (.int .i64 kk)) (h9 : w.cell? ⟨b9, 0, none⟩ = some (.func (.func 27) #[] #[])) (hn8 : b8 ≠ b) (hn9 : b9 ≠ b) (he : spn (hx kk) s s.size d = e) :
    Calls Tryd.prog 26 #[.func (.func 28) #[] #[.pointer (some ⟨b9, 0, none⟩), .pointer (some ⟨b8, 0, none⟩)], .pointer (some ⟨bx, 0, none⟩), .pointer (some ⟨bs, 0, none⟩)] w fun en w' => en = .returned (.int .i64 ((e - d : Nat) : Int)) ∧ NE B b s w0 w' e op Ts D O bx bs ∧ HB8 w' b b8 kk := by
  obtain ⟨o, dd, q, la, co, hL, h1, h2⟩ := h.l
  refine (runh_any b9 b8 kk bx bs b s d o dd op q la co w hs hd hL.x h.x h.t h.nx h.ns h9 h8 hn9 hn8).mono ?_
  rintro en w' ⟨h3, h4, h5⟩
  rw [he] at h3 h4
  exact ⟨h3, ⟨⟨o, dd, q, la, co, hL.next h5 h4, h1, h2⟩, gb_cell h5 (show (⟨bx, 0, none⟩ : Addr).block ≠ b from h.nx) h.x, gb_cell h5 (show (⟨bs, 0, none⟩ : Addr).block ≠ b from h.ns) h.t, h.be.trans (gb_below h5 hL.bb hL.bw), h.nx, h.ns⟩, gb_cell h5 (show (⟨b8, 0, none⟩ : Addr).block ≠ b from hn8) h8, hn8⟩

set_option maxHeartbeats 2000000 in
theorem n19_h6 (B b bx bs b8 : Nat) (z op : Bool) (s : ByteArray) (p : Nat) (kk : Int) (Ts : List Tok) (D : List Int) (O : List (Bool × Int)) (w0 w : World) (Q : Exit → Act → World → Prop) (a : Act)
    (ha : (F19h b z bx bs b8 fun k => a.tmps.getD k undef) = a) (hs : s.size ≤ 100) (hp : p + 2 ≤ s.size) (hN : NE B b s w0 w p op Ts D O bx bs) (h8 : HB8 w b b8 kk)
    (hfin : ∀ (a : Act) (w' : World) (d : Nat), p + 2 ≤ d → d ≤ s.size → NE B b s w0 w' d op Ts D O bx bs → HB8 w' b b8 kk → (F19i b z bx bs b8 (p + 2) (d - (p + 2)) fun k => a.tmps.getD k undef) = a →
      Code.wp Tryd.prog (c19 [true, true, true, true, false, true, false, true, true, true, true, true]) Q a w') :
    Code.wp Tryd.prog (c19 [true, true, true, true, false, true, false, true]) Q a w := by
  rw [← ha]
  clear ha
  generalize (fun k => a.tmps.getD k undef) = u
  conv => arg 2; whnf
  rw [F19h_lit, sg352_13, sg352_330]
  obtain ⟨m, hm⟩ : ∃ m, p + 2 = m := ⟨_, rfl⟩
  rw [hm] at hfin
  have HF := Lib.hid hfin
  have HN := Lib.hid hN
  have H8 := Lib.hid h8
  clear hfin hN h8
  obtain ⟨c1, c4, c5, f1, f4⟩ := HN.out.cells
  have x2 := HN.out.x
  have x4 := HN.out.t
  have w2 : IntKind.i64.wrap ((p : Int) + 2) = (m : Int) := by rw [show (p : Int) + 2 = (m : Int) by omega]; exact IntWalk.i64_in _ (by omega)
  have z1 : (w.setCell ⟨b, 1, none⟩ (.int .i64 (m : Int))).heap.size = w.heap.size := World.size_setCell _ _ _
  have f9 : ((w.setCell ⟨b, 1, none⟩ (.int .i64 (m : Int))).alloc (.cells #[.nilFunc] 61)).frozen? ⟨w.heap.size, 0, none⟩ = false := by
    rw [frozen?_alloc_cells, World.frozen?_setCell]; simp [World.frozen?]
  have c9 : ((w.setCell ⟨b, 1, none⟩ (.int .i64 (m : Int))).alloc (.cells #[.nilFunc] 61)).cell? ⟨w.heap.size, 0, none⟩ = some .nilFunc := by
    rw [World.cell?_alloc_at _ _ _ _ z1.symm]; rfl
  have HN2 := Lib.hid ((HN.out.at1 m).gbn (World.grownBy_alloc _ (.cells #[.func (.func 27) #[] #[]] 61) none))
  have hb8 : b8 < w.heap.size := World.block_lt_of_cell? w _ H8.out.c
  have HC8 : Hid (((w.setCell ⟨b, 1, none⟩ (.int .i64 (m : Int))).alloc (.cells #[.func (.func 27) #[] #[]] 61)).cell? ⟨b8, 0, none⟩ = some (.int .i64 kk)) := Lib.hid (by
    rw [World.cell?_alloc_lt _ _ _ (by rw [z1]; exact hb8)]; exact gb_cell (gb_set (World.grownBy.refl _ _) 1 _) (show (⟨b8, 0, none⟩ : Addr).block ≠ b from H8.out.n) H8.out.c)
  have HC9 : Hid (((w.setCell ⟨b, 1, none⟩ (.int .i64 (m : Int))).alloc (.cells #[.func (.func 27) #[] #[]] 61)).cell? ⟨w.heap.size, 0, none⟩ = some (.func (.func 27) #[] #[])) := Lib.hid (by
    rw [World.cell?_alloc_at _ _ _ _ z1.symm]; rfl)
  have hb9 : Hid (w.heap.size ≠ b) := Lib.hid (by have h := World.block_lt_of_cell? w _ c1; intro e; have h : b < w.heap.size := h; omega)
  refine wp_seq_h ?_
  intro K1 HK1
  go_wp2_with fail
  apply HK1.out
  clear HK1
  refine wp_seq_h ?_
  intro K1 HK1
  go_wp2_with fail
  apply HK1.out
  clear HK1
  clear z1 f9 c9 c1 c4 c5 f1 f4 x2 x4
  revert HN2 HC8 HC9
  generalize (w.setCell ⟨b, 1, none⟩ (.int .i64 (m : Int))).alloc (.cells #[.func (.func 27) #[] #[]] 61) = W2
  intro HN2 HC8 HC9
  obtain ⟨c1, c4, c5, f1, f4⟩ := HN2.out.cells
  have x2 := HN2.out.x
  have x4 := HN2.out.t
  obtain ⟨e, he⟩ : ∃ e, spn (hx kk) s s.size m = e := ⟨_, rfl⟩
  have hme := spn_b (hx kk) s s.size m (by omega)
  rw [he] at hme
  have HC := Lib.hid (runh_ne (b9 := w.heap.size) HN2.out hs (by omega) HC8.out HC9.out H8.out.n hb9.out he)
  obtain ⟨n, hn⟩ : ∃ n, e - m = n := ⟨_, rfl⟩
  rw [hn] at HC
  refine wp_seq_h ?_
  intro K1 HK1
  go_wp2_with fail
  apply HK1.out
  clear HK1
  refine wp_seq_h ?_
  intro K1 HK1
  go_wp2_with (go_at_call 26; refine HC.out.mono ?_; rintro e1 w1 ⟨rfl, hN1, h81⟩; have HN1 := Lib.hid hN1; have H81 := Lib.hid h81; clear hN1 h81)
  exact HK1.out _ _ (wp_code (c := c19 [true, true, true, true, false, true, false, true, true, true, true, true]) (by kernel_rfl) (HF.out _ _ e hme.1 hme.2 HN1.out H81.out (F19i_at _ _ _ _ _ _ _ rfl ⟨rfl, rfl, rfl, rfl, rfl, rfl, rfl, by rw [hn]; rfl, trivial⟩)))
set_option maxRecDepth 100000

def F19j (b : Nat) (z : Bool) (bx bs b8 : Nat) (p : Nat) (n : Nat) (v : Nat) (er : Value)  : (Nat → Value) → Act := FG 352 [(0, .pointer (some ⟨b, 0, none⟩)), (1, .bool z), (2, .pointer (some ⟨bx, 0, none⟩)), (4, .pointer (some ⟨bs, 0, none⟩)), (5, .int .i64 p), (6, .func (.func 26) #[] #[.pointer (some ⟨bx, 0, none⟩), .pointer (some ⟨bs, 0, none⟩)]), (8, .pointer (some ⟨b8, 0, none⟩)), (10, .int .i64 n), (11, .int .u64 v), (12, er)]
theorem F19j_lit (b : Nat) (z : Bool) (bx bs b8 : Nat) (p : Nat) (n : Nat) (v : Nat) (er : Value) (u : Nat → Value) : F19j b  z  bx bs b8  p  n  v  er u = { tmps := List.toArray (.pointer (some ⟨b, 0, none⟩) :: .bool z :: .pointer (some ⟨bx, 0, none⟩) :: u 3 :: .pointer (some ⟨bs, 0, none⟩) :: .int .i64 p :: .func (.func 26) #[] #[.pointer (some ⟨bx, 0, none⟩), .pointer (some ⟨bs, 0, none⟩)] :: u 7 :: .pointer (some ⟨b8, 0, none⟩) :: u 9 :: .int .i64 n :: .int .u64 v :: er :: sg352_13 u (u 329 :: sg352_330 u)), defers := [] } := by kernel_rfl
theorem F19j_at (b : Nat) (z : Bool) (bx bs b8 : Nat) (p : Nat) (n : Nat) (v : Nat) (er : Value)  {L : List Value} (hl : L.length = 352) (hn : NmOk L [(0, .pointer (some ⟨b, 0, none⟩)), (1, .bool z), (2, .pointer (some ⟨bx, 0, none⟩)), (4, .pointer (some ⟨bs, 0, none⟩)), (5, .int .i64 p), (6, .func (.func 26) #[] #[.pointer (some ⟨bx, 0, none⟩), .pointer (some ⟨bs, 0, none⟩)]), (8, .pointer (some ⟨b8, 0, none⟩)), (10, .int .i64 n), (11, .int .u64 v), (12, er)]) : (F19j b  z  bx bs b8  p  n  v  er fun k => (Act.mk L.toArray []).tmps.getD k undef) = { tmps := L.toArray, defers := [] } := FG_at hl hn

def errV (er : Value) : Prop := er = .nilIface ∨ ∃ t x, er = .iface t x

set_option maxHeartbeats 2000000 in
theorem n19_h11 (B b bx bs b8 : Nat) (z op : Bool) (s : ByteArray) (p d n v : Nat) (er : Value) (Ts : List Tok) (D : List Int) (O : List (Bool × Int)) (w0 w : World) (K : Act → World → Prop) (Post : Ending → World → Prop) (a : Act)
    (ha : (F19j b z bx bs b8 p n v er fun k => a.tmps.getD k undef) = a) (hv : v < P64) (her : errV er) (hN : NE B b s w0 w d op Ts D O bx bs)
    (hbad : ∀ w', NE B b s w0 w' d true Ts D O bx bs → Post (.returned (.tuple #[])) w')
    (hfin : ∀ (a : Act) (w' : World) (f : Nat), NE B b s w0 w' d op Ts D O bx bs → (F19z b z bx bs p f fun k => a.tmps.getD k undef) = a → K a w') :
    Code.wp Tryd.prog (c19 [true, true, true, true, false, true, false, true, true, true, true, true, true]) (Exit.then K (bodyPost Tryd.prog Tryd.f19 Post)) a w := by
  rw [← ha]
  clear ha
  generalize (fun k => a.tmps.getD k undef) = u
  conv => arg 2; whnf
  rw [F19j_lit, sg352_13, sg352_330]
  have HF := Lib.hid hfin
  have HB := Lib.hid hbad
  have HN := Lib.hid hN
  have HV := Lib.hid hv
  clear hfin hN hbad hv
  obtain ⟨c1, c4, c5, f1, f4⟩ := HN.out.cells
  have x2 := HN.out.x
  by_cases hn : n = 0
  · have g1 : ((n : Int) == 0) = true := by simp; omega
    go_wp2_with fail
    go_end0
    exact HB.out _ HN.out.op1
  · have g1 : ((n : Int) == 0) = false := by simp; omega
    rcases her with rfl | ⟨t, x, rfl⟩
    · by_cases h2 : v > 9007199254740992
      · have g2 : decide ((v : Int) > 9007199254740992) = true := decide_eq_true (by omega)
        go_wp2_with fail
        exact HF.out _ _ _ HN.out (F19z_at _ _ _ _ _ _ rfl ⟨rfl, rfl, rfl, rfl, rfl, rfl, trivial⟩)
      · have g2 : decide ((v : Int) > 9007199254740992) = false := decide_eq_false (by omega)
        go_wp2_with fail
        exact HF.out _ _ _ HN.out (F19z_at _ _ _ _ _ _ rfl ⟨rfl, rfl, rfl, rfl, rfl, rfl, trivial⟩)
    · go_wp2_with fail
      go_end0
      exact HB.out _ HN.out.op1

set_option maxHeartbeats 2000000 in
theorem n19_h10 (B b bx bs b8 : Nat) (T : World → Prop) (hU : PuSaid T) (z op : Bool) (s : ByteArray) (p d n : Nat) (kk : Int) (Ts : List Tok) (D : List Int) (O : List (Bool × Int)) (w0 w : World) (K : Act → World → Prop) (Post : Ending → World → Prop) (a : Act)
    (ha : (F19i b z bx bs b8 p n fun k => a.tmps.getD k undef) = a) (hs : s.size ≤ 100) (hpd : p ≤ d) (hd : d ≤ s.size) (hk : kk = 16 ∨ kk = 8 ∨ kk = 2) (hN : NE B b s w0 w d op Ts D O bx bs) (h8 : HB8 w b b8 kk) (hT : ∀ w', Below B w0 w' → T w')
    (hbad : ∀ w', NE B b s w0 w' d true Ts D O bx bs → Post (.returned (.tuple #[])) w')
    (hfin : ∀ (a : Act) (w' : World) (f : Nat), NE B b s w0 w' d op Ts D O bx bs → (F19z b z bx bs p f fun k => a.tmps.getD k undef) = a → K a w') :
    Code.wp Tryd.prog (c19 [true, true, true, true, false, true, false, true, true, true, true, true]) (Exit.then K (bodyPost Tryd.prog Tryd.f19 Post)) a w := by
  rw [← ha]
  clear ha
  generalize (fun k => a.tmps.getD k undef) = u
  conv => arg 2; whnf
  rw [F19i_lit, sg352_13, sg352_330]
  obtain ⟨c1, c4, c5, f1, f4⟩ := hN.cells
  refine wp_seq_k ?_
  intro K1 hK1
  refine wp_code (c := c19 [true, true, true, true, false, true, false, true, true, true, true, true, false]) (by kernel_rfl) (region10_any b bx bs b8 s p d kk (fun v er => (∃ n : Nat, v = .int .u64 n ∧ n < P64) ∧ errV er) _ _ _ rfl rfl rfl rfl rfl rfl hN.x hN.t c1 h8.c hpd hd ?_ ?_)
  · refine (hU (s.extract p d) kk 64 _ (hT _ ?_) (by rw [ext_size _ _ _ hd]; omega) ⟨hk, .inr rfl⟩).mono ?_
    · exact (hN.gbn (gb_drewN (World.grownBy.refl _ _) 1)).be
    · rintro e w' ⟨v, er, rfl, h1, h2, h3⟩
      exact ⟨_, er, rfl, gb_of_below h3 none, ⟨v, rfl, h1⟩, h2⟩
  · rintro a' w' v er ⟨⟨v, rfl, h1⟩, h2⟩ hz hd2 hj h11 h12 hg
    refine hK1 _ _ (wp_code (c := c19 [true, true, true, true, false, true, false, true, true, true, true, true, true]) (by kernel_rfl) (n19_h11 B b bx bs b8 z op s p d n v er Ts D O w0 w' K Post a' ?_ h1 h2 (hN.gbn hg) hbad hfin))
    exact FG_self hz hd2 ⟨toL_getD _ _ (hj 0 (by omega)), toL_getD _ _ (hj 1 (by omega)), toL_getD _ _ (hj 2 (by omega)), toL_getD _ _ (hj 4 (by omega)), toL_getD _ _ (hj 5 (by omega)), toL_getD _ _ (hj 6 (by omega)), toL_getD _ _ (hj 8 (by omega)), toL_getD _ _ (hj 10 (by omega)), toL_getD _ _ h11, toL_getD _ _ h12, trivial⟩

set_option maxHeartbeats 2000000 in
theorem n19_hex (B b bx bs : Nat) (T : World → Prop) (hU : PuSaid T) (z op : Bool) (s : ByteArray) (p0 p : Nat) (Ts : List Tok) (D : List Int) (O : List (Bool × Int)) (w0 w : World) (K : Act → World → Prop) (Post : Ending → World → Prop) (a : Act)
    (ha : (F19e b z bx bs p0 fun k => a.tmps.getD k undef) = a) (hs : s.size ≤ 100) (hp : p + 1 < s.size) (hx : bt s (p + 1) ||| 32 = 120 ∨ bt s (p + 1) ||| 32 = 111 ∨ bt s (p + 1) ||| 32 = 98) (hN : NE B b s w0 w p op Ts D O bx bs) (hT : ∀ w', Below B w0 w' → T w')
    (hbad : ∀ w' d, p < d → d ≤ s.size → NE B b s w0 w' d true Ts D O bx bs → Post (.returned (.tuple #[])) w')
    (hfin : ∀ (a : Act) (w' : World) (q d f : Nat), p < q → q ≤ d → d ≤ s.size → NE B b s w0 w' d op Ts D O bx bs → (F19z b z bx bs q f fun k => a.tmps.getD k undef) = a → K a w') :
    Code.wp Tryd.prog (c19 [true, true, true, true, false, true, false]) (Exit.then K (bodyPost Tryd.prog Tryd.f19 Post)) a w := by
  rw [← ha]
  clear ha
  generalize (fun k => a.tmps.getD k undef) = u
  conv => arg 2; whnf
  rw [F19e_lit, sg352_13, sg352_330]
  obtain ⟨c1, c4, c5, f1, f4⟩ := hN.cells
  have hbl : b < w.heap.size := World.block_lt_of_cell? w _ c1
  have hco := or32 (bt s (p + 1)) (bt_lt _ _)
  generalize ho : bt s (p + 1) ||| 32 = o at hx hco
  have hkk : vk (o : Int) = 16 ∨ vk (o : Int) = 8 ∨ vk (o : Int) = 2 := by
    rcases hx with rfl | rfl | rfl
    · exact .inl rfl
    · exact .inr (.inl rfl)
    · exact .inr (.inr rfl)
  refine wp_seq_k ?_
  intro K1 hK1
  refine wp_code (c := c19 [true, true, true, true, false, true, false, false]) (by kernel_rfl) (region5_any b bx bs s p (bt s (p + 1) : Nat) (o : Int) _ _ _ rfl rfl rfl rfl hN.x hN.t c1 (by omega) (by omega) hs (by rw [show ((p : Int) + 1).toNat = p + 1 by omega]) hco (by omega) ?_)
  rintro a' w' r8 hz hd2 hj h8 hr8 hh hg
  have hb8 : HB8 w' b r8 (vk (o : Int)) := ⟨by simp [World.cell?, hh], by omega⟩
  refine hK1 _ _ (wp_code (c := c19 [true, true, true, true, false, true, false, true]) (by kernel_rfl) (n19_h6 B b bx bs r8 z op s p (vk (o : Int)) Ts D O w0 w' _ a' ?_ hs (by omega) (hN.gbn hg) hb8 ?_))
  · exact FG_self hz hd2 ⟨toL_getD _ _ (hj 0 (by omega) (by omega)), toL_getD _ _ (hj 1 (by omega) (by omega)), toL_getD _ _ (hj 2 (by omega) (by omega)), toL_getD _ _ (hj 4 (by omega) (by omega)), toL_getD _ _ (hj 6 (by omega) (by omega)), toL_getD _ _ h8, trivial⟩
  · intro a2 w2 d h1 h2 hN2 hb2 ha2
    exact n19_h10 B b bx bs r8 T hU z op s (p + 2) d _ (vk (o : Int)) Ts D O w0 w2 K Post a2 ha2 hs h1 h2 hkk hN2 hb2 hT (fun w' hN' => hbad w' d (by omega) h2 hN') (fun a w' f hN' ha' => hfin a w' (p + 2) d f (by omega) h1 h2 hN' ha')
end Go.Proofs.YtblphppdfiipfaaDoor
