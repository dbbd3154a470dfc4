/- The lexer takes a number: its token is laid. Conditions: none. -/
import Derived.Test.YtblphppdfiipfaaDoorCOrder
import Derived.Test.YtblphppdfiipfaaDoorCFrames
import Derived.Test.YtblphppdfiipfaaDoorCPf
namespace Go.Proofs.YtblphppdfiipfaaDoor
open Go.RowKit
set_option maxRecDepth 100000

noncomputable def b19 : Code := Tryd.f19.body.getD .skip
noncomputable def c19 (l : List Bool) : Code := goC l b19

/-- what each operation lays, and where -/
def exp5 (b : Nat) (s : ByteArray) (p c o : Int) (r8 r74 : Nat) : Nat → Option (Nat × Value)
  | 0 => some (74, .map (some r74))
  | 4 => some (75, .map (some r74))
  | 5 => some (76, .string s)
  | 6 => some (77, .pointer (some ⟨b, 0, none⟩))
  | 7 => some (78, .pointer (some ⟨b, 0, none⟩))
  | 8 => some (79, .pointer (some ⟨b, 1, none⟩))
  | 9 => some (80, .int .i64 p)
  | 10 => some (81, .int .i64 (p + 1))
  | 11 => some (82, .int .u8 c)
  | 12 => some (83, .int .u8 o)
  | 13 => some (84, .int .i64 (vk o))
  | 14 => some (8, .pointer (some ⟨r8, 0, none⟩))
  | _ => none
theorem exp5_slot {b : Nat} {s : ByteArray} {p c o : Int} {r8 r74 i : Nat} {x : Nat × Value} (h : exp5 b s p c o r8 r74 i = some x) :
    (i = 0 ∧ x.1 = 74) ∨ (4 ≤ i ∧ i ≤ 13 ∧ x.1 = i + 71) ∨ (i = 14 ∧ x.1 = 8) := by
  unfold exp5 at h
  split at h <;> simp at h <;> subst h <;> simp
structure SlotA (L : Array Bool) (a0 a : Act) (b : Nat) (s : ByteArray) (p c o : Int) (r8 r74 : Nat) : Prop where
  d : a.defers = []
  z : a.tmps.size = 352
  far : ∀ j, j ≠ 8 → (j < 74 ∨ 84 < j) → a.tmps.getD j undef = a0.tmps.getD j undef
  at_ : ∀ i x, i < 16 → L.getD i false = true → exp5 b s p c o r8 r74 i = some x → a.tmps.getD x.1 undef = x.2
theorem put_get {a : Act} (hz : a.tmps.size = 352) (d : Nat) (hd : d < 352) (v : Value) (j : Nat) : (a.put (some d) v).tmps.getD j undef = if j = d then v else a.tmps.getD j undef := by
  show (a.tmps.setIfInBounds d v).getD j undef = _
  rw [Array.getD_eq_getD_getElem?, Array.getD_eq_getD_getElem?, Array.getElem?_setIfInBounds]
  by_cases h : j = d
  · subst h
    rw [if_pos rfl, if_pos (by omega), if_pos rfl]
    rfl
  · rw [if_neg (fun e => h e.symm), if_neg h]
theorem lset_get {L : Array Bool} (hz : L.size = 16) (i : Nat) (hi : i < 16) (k : Nat) : (L.setIfInBounds i true).getD k false = if k = i then true else L.getD k false := by
  rw [Array.getD_eq_getD_getElem?, Array.getD_eq_getD_getElem?, Array.getElem?_setIfInBounds]
  by_cases h : k = i
  · subst h
    rw [if_pos rfl, if_pos (by omega), if_pos rfl]
    rfl
  · rw [if_neg (fun e => h e.symm), if_neg h]
theorem SlotA.put {L : Array Bool} {a0 a : Act} {b : Nat} {s : ByteArray} {p c o : Int} {r8 r74 : Nat} (h : SlotA L a0 a b s p c o r8 r74) (hL : L.size = 16) (i : Nat) (hi : i < 16) (x : Nat × Value) (r8' r74' : Nat)
    (hx : exp5 b s p c o r8' r74' i = some x) (hr8 : r8' = r8 ∨ i = 14) (hr74 : r74' = r74 ∨ (i = 0 ∧ L.getD 4 false = false)) : SlotA (L.setIfInBounds i true) a0 (a.put (some x.1) x.2) b s p c o r8' r74' := by
  have hs := exp5_slot hx
  have hx352 : x.1 < 352 := by omega
  refine ⟨h.d, by show (a.tmps.setIfInBounds _ _).size = 352; rw [Array.size_setIfInBounds]; exact h.z, fun j h1 h2 => ?_, fun k y hk hl hy => ?_⟩
  · rw [put_get h.z _ hx352, if_neg (by omega)]; exact h.far j h1 h2
  · rw [put_get h.z _ hx352]
    by_cases hki : k = i
    · subst hki
      rw [hx, Option.some.injEq] at hy
      rw [hy, if_pos rfl]
    · have hsy := exp5_slot hy
      rw [if_neg (by omega)]
      rw [lset_get hL i hi, if_neg hki] at hl
      refine h.at_ k y hk hl ?_
      rw [← hy]
      have e8 : r8' = r8 ∨ k ≠ 14 := by rcases hr8 with h | h <;> omega
      have e74 : r74' = r74 ∨ (k ≠ 0 ∧ k ≠ 4) := by
        rcases hr74 with h | ⟨h, h4⟩
        · exact .inl h
        · refine .inr ⟨by omega, fun e => ?_⟩
          rw [e, h4] at hl
          exact absurd hl (by simp)
      have key : ∀ k, (r8' = r8 ∨ k ≠ 14) → (r74' = r74 ∨ (k ≠ 0 ∧ k ≠ 4)) → exp5 b s p c o r8 r74 k = exp5 b s p c o r8' r74' k := by
        intro k h1 h2
        unfold exp5
        split <;> first
          | rfl
          | (rcases h2 with h | h
             · rw [h]
             · omega)
          | (rcases h1 with h | h
             · rw [h]
             · omega)
      exact key k e8 e74
theorem SlotA.none {L : Array Bool} {a0 a : Act} {b : Nat} {s : ByteArray} {p c o : Int} {r8 r74 : Nat} (h : SlotA L a0 a b s p c o r8 r74) (hL : L.size = 16) (i : Nat) (hi : i < 16)
    (hx : exp5 b s p c o r8 r74 i = none) (v : Value) : SlotA (L.setIfInBounds i true) a0 (a.put none v) b s p c o r8 r74 := by
  refine ⟨h.d, h.z, h.far, fun k y hk hl hy => ?_⟩
  by_cases hki : k = i
  · subst hki; rw [hx] at hy; exact absurd hy (by simp)
  · rw [lset_get hL i hi, if_neg hki] at hl
    exact h.at_ k y hk hl hy

/-- the world, while the region runs -/
structure WorldA (L : Array Bool) (w0 w : World) (o : Int) (r8 r74 : Nat) (ks : List Int) : Prop where
  g : w0.grownBy w none
  m : L.getD 0 false = true → w0.heap.size ≤ r74 ∧ Mp w r74 ks ∧ (120 ∈ ks ↔ L.getD 1 false = true) ∧ (111 ∈ ks ↔ L.getD 2 false = true) ∧ (98 ∈ ks ↔ L.getD 3 false = true)
  c : L.getD 4 false = true → L.getD 0 false = true ∧ L.getD 1 false = true ∧ L.getD 2 false = true ∧ L.getD 3 false = true
  n : L.getD 14 false = true → w0.heap.size ≤ r8 ∧ ∃ v, w.heap[r8]? = some (.cells #[v] 3 (0, 0)) ∧ (L.getD 15 false = true → v = .int .i64 (vk o))
  k : (L.getD 13 false = true → L.getD 4 false = true)
  e1 : L.getD 1 false = true → L.getD 0 false = true
  e2 : L.getD 2 false = true → L.getD 0 false = true
  e3 : L.getD 3 false = true → L.getD 0 false = true
  e15 : L.getD 15 false = true → L.getD 14 false = true
/-- nothing of the world has changed -/
theorem WorldA.same {L : Array Bool} {w0 w : World} {o : Int} {r8 r74 : Nat} {ks : List Int} (h : WorldA L w0 w o r8 r74 ks) (hL : L.size = 16) (i : Nat) (hi : i < 16)
    (hne : i ≠ 0 ∧ i ≠ 1 ∧ i ≠ 2 ∧ i ≠ 3 ∧ i ≠ 14 ∧ i ≠ 15) (h4 : i = 4 → L.getD 0 false = true ∧ L.getD 1 false = true ∧ L.getD 2 false = true ∧ L.getD 3 false = true) (h13 : i = 13 → L.getD 4 false = true) :
    WorldA (L.setIfInBounds i true) w0 w o r8 r74 ks := by
  obtain ⟨n0, n1, n2, n3, n14, n15⟩ := hne
  refine ⟨h.g, ?_, ?_, ?_, ?_, by simp only [lset_get hL i hi, if_neg n0.symm, if_neg n1.symm]; exact h.e1, by simp only [lset_get hL i hi, if_neg n0.symm, if_neg n2.symm]; exact h.e2, by simp only [lset_get hL i hi, if_neg n0.symm, if_neg n3.symm]; exact h.e3, by simp only [lset_get hL i hi, if_neg n14.symm, if_neg n15.symm]; exact h.e15⟩
  · simp only [lset_get hL i hi, if_neg n0.symm, if_neg n1.symm, if_neg n2.symm, if_neg n3.symm]
    exact h.m
  · simp only [lset_get hL i hi, if_neg n0.symm, if_neg n1.symm, if_neg n2.symm, if_neg n3.symm]
    by_cases e : 4 = i
    · intro _; exact h4 e.symm
    · rw [if_neg e]; exact h.c
  · simp only [lset_get hL i hi, if_neg n14.symm, if_neg n15.symm]
    exact h.n
  · simp only [lset_get hL i hi]
    by_cases e : 13 = i
    · intro _
      by_cases e2 : 4 = i
      · rw [if_pos e2]
      · rw [if_neg e2]; exact h13 e.symm
    · rw [if_neg e]
      intro h1
      by_cases e2 : 4 = i
      · rw [if_pos e2]
      · rw [if_neg e2]; exact h.k h1

theorem gb_fresh {w0 w w' : World} {r : Nat} (h : w0.grownBy w none) (h2 : w.grownBy w' (some r)) (hr : w0.heap.size ≤ r) : w0.grownBy w' none :=
  ⟨h2.os.trans h.os, h2.tape.trans h.tape, h2.output.trans h.output, Nat.le_trans h.size h2.size, fun k hk _ => by
    rw [h2.block k (Nat.lt_of_lt_of_le hk h.size) (by simp; omega)]
    exact h.block k hk (by simp)⟩
theorem nf {L : Array Bool} {i : Nat} (h : L.getD i false = false) : ¬ L.getD i false = true := by rw [h]; simp
/-- the map is made -/
theorem WorldA.make {L : Array Bool} {w0 w : World} {o : Int} {r8 r74 : Nat} {ks : List Int} (h : WorldA L w0 w o r8 r74 ks) (hL : L.size = 16) (hl : L.getD 0 false = false) :
    WorldA (L.setIfInBounds 0 true) w0 (w.alloc (.map #[] 0)) o r8 w.heap.size [] := by
  have n1 : ¬ L.getD 1 false = true := fun e => nf hl (h.e1 e)
  have n2 : ¬ L.getD 2 false = true := fun e => nf hl (h.e2 e)
  have n3 : ¬ L.getD 3 false = true := fun e => nf hl (h.e3 e)
  have n4 : ¬ L.getD 4 false = true := fun e => nf hl (h.c e).1
  have g0 : ∀ k, (L.setIfInBounds 0 true).getD k false = if k = 0 then true else L.getD k false := lset_get hL 0 (by omega)
  refine ⟨Lib.grownBy_trans h.g (World.grownBy_alloc _ _ _), fun _ => ⟨h.g.size, heap_alloc_new w _, ?_, ?_, ?_⟩, ?_, ?_, ?_, fun _ => by rw [g0]; rfl, fun _ => by rw [g0]; rfl, fun _ => by rw [g0]; rfl, ?_⟩
  · simp only [g0]; simp [n1]
  · simp only [g0]; simp [n2]
  · simp only [g0]; simp [n3]
  · simp only [g0]; simp [n4]
  · simp only [g0]
    intro h14
    obtain ⟨a, v, b, c⟩ := h.n (by simpa using h14)
    exact ⟨a, v, (Below.heap_alloc w _ r8 (lt_of_block b)).trans b, by simpa using c⟩
  · simp only [g0]; simpa using h.k
  · simp only [g0]; simpa using h.e15
/-- a key is laid -/
theorem WorldA.ins {L : Array Bool} {w0 w w' : World} {o : Int} {r8 r74 : Nat} {ks : List Int} (h : WorldA L w0 w o r8 r74 ks) (hL : L.size = 16) (i : Nat) (k : Int) (hk : (i = 1 ∧ k = 120) ∨ (i = 2 ∧ k = 111) ∨ (i = 3 ∧ k = 98))
    (h0 : L.getD 0 false = true) (hM : Mp w' r74 (ks ++ [k])) (hG : w.grownBy w' (some r74)) : WorldA (L.setIfInBounds i true) w0 w' o r8 r74 (ks ++ [k]) := by
  obtain ⟨m1, m2, m3, m4, m5⟩ := h.m h0
  have g0 : ∀ j, (L.setIfInBounds i true).getD j false = if j = i then true else L.getD j false := lset_get hL i (by omega)
  refine ⟨gb_fresh h.g hG m1, fun _ => ⟨m1, hM, ?_, ?_, ?_⟩, ?_, ?_, ?_, ?_, ?_, ?_, ?_⟩
  · simp only [g0, List.mem_append, List.mem_singleton, m3]
    rcases hk with ⟨rfl, rfl⟩ | ⟨rfl, rfl⟩ | ⟨rfl, rfl⟩ <;> simp
  · simp only [g0, List.mem_append, List.mem_singleton, m4]
    rcases hk with ⟨rfl, rfl⟩ | ⟨rfl, rfl⟩ | ⟨rfl, rfl⟩ <;> simp
  · simp only [g0, List.mem_append, List.mem_singleton, m5]
    rcases hk with ⟨rfl, rfl⟩ | ⟨rfl, rfl⟩ | ⟨rfl, rfl⟩ <;> simp
  · simp only [g0]
    intro h4
    have := h.c (by rcases hk with ⟨rfl, rfl⟩ | ⟨rfl, rfl⟩ | ⟨rfl, rfl⟩ <;> simpa using h4)
    obtain ⟨a, b, c, d⟩ := this
    refine ⟨?_, ?_, ?_, ?_⟩ <;> split <;> simp [*]
  · simp only [g0]
    intro h14
    have h14' : L.getD 14 false = true := by rcases hk with ⟨rfl, rfl⟩ | ⟨rfl, rfl⟩ | ⟨rfl, rfl⟩ <;> simpa using h14
    obtain ⟨a, v, b, c⟩ := h.n h14'
    have hne : r8 ≠ r74 := by
      intro e
      subst e
      unfold Mp at m2
      rw [b] at m2
      exact absurd m2 (by simp)
    refine ⟨a, v, (hG.block r8 (lt_of_block b) (by simp; exact hne)).trans b, fun h15 => c ?_⟩
    rcases hk with ⟨rfl, rfl⟩ | ⟨rfl, rfl⟩ | ⟨rfl, rfl⟩ <;> simpa using h15
  · simp only [g0]
    intro h13
    have := h.k (by rcases hk with ⟨rfl, rfl⟩ | ⟨rfl, rfl⟩ | ⟨rfl, rfl⟩ <;> simpa using h13)
    split <;> simp [*]
  · simp only [g0]; intro _; split <;> simp [*]
  · simp only [g0]; intro _; split <;> simp [*]
  · simp only [g0]; intro _; split <;> simp [*]
  · simp only [g0]
    intro h15
    have := h.e15 (by rcases hk with ⟨rfl, rfl⟩ | ⟨rfl, rfl⟩ | ⟨rfl, rfl⟩ <;> simpa using h15)
    split <;> simp [*]
/-- the cell is made -/
theorem WorldA.cell {L : Array Bool} {w0 w : World} {o : Int} {r8 r74 : Nat} {ks : List Int} (h : WorldA L w0 w o r8 r74 ks) (hL : L.size = 16) (hl : L.getD 14 false = false) (v : Value) :
    WorldA (L.setIfInBounds 14 true) w0 (w.alloc (.cells #[v] 3)) o w.heap.size r74 ks := by
  have g0 : ∀ k, (L.setIfInBounds 14 true).getD k false = if k = 14 then true else L.getD k false := lset_get hL 14 (by omega)
  have n15 : ¬ L.getD 15 false = true := fun e => nf hl (h.e15 e)
  refine ⟨Lib.grownBy_trans h.g (World.grownBy_alloc _ _ _), ?_, by simp only [g0]; simpa using h.c, fun _ => ⟨h.g.size, v, heap_alloc_new w _, ?_⟩, by simp only [g0]; simpa using h.k, by simp only [g0]; simpa using h.e1, by simp only [g0]; simpa using h.e2, by simp only [g0]; simpa using h.e3, fun _ => by rw [g0]; rfl⟩
  · simp only [g0]
    intro h0
    obtain ⟨a, b, c, d, e⟩ := h.m (by simpa using h0)
    exact ⟨a, (Below.heap_alloc w _ r74 (lt_of_block b)).trans b, by simpa using c, by simpa using d, by simpa using e⟩
  · simp only [g0]; simp [n15]
/-- the cell is set -/
theorem WorldA.set {L : Array Bool} {w0 w : World} {o : Int} {r8 r74 : Nat} {ks : List Int} (h : WorldA L w0 w o r8 r74 ks) (hL : L.size = 16) (h14 : L.getD 14 false = true) :
    WorldA (L.setIfInBounds 15 true) w0 (w.setCell ⟨r8, 0, none⟩ (.int .i64 (vk o))) o r8 r74 ks := by
  have g0 : ∀ k, (L.setIfInBounds 15 true).getD k false = if k = 15 then true else L.getD k false := lset_get hL 15 (by omega)
  obtain ⟨n1, v, n2, n3⟩ := h.n h14
  have hlt := lt_of_block n2
  refine ⟨gb_fresh h.g (gb_set (World.grownBy.refl _ _) _ _) n1, ?_, by simp only [g0]; simpa using h.c, fun _ => ⟨n1, _, ?_, fun _ => rfl⟩, by simp only [g0]; simpa using h.k, by simp only [g0]; simpa using h.e1, by simp only [g0]; simpa using h.e2, by simp only [g0]; simpa using h.e3, fun _ => by rw [g0]; simpa using h14⟩
  · simp only [g0]
    intro h0
    obtain ⟨a, b, c, d, e⟩ := h.m (by simpa using h0)
    have hne : r74 ≠ r8 := by
      intro e
      subst e
      unfold Mp at b
      rw [b] at n2
      exact absurd n2 (by simp)
    exact ⟨a, (Below.heap_setCell w _ _ r74 hne).trans b, by simpa using c, by simpa using d, by simpa using e⟩
  · rw [Array.getElem?_eq_getElem hlt, Option.some.injEq] at n2
    show (w.heap.modify r8 _)[r8]? = _
    rw [Array.getElem?_eq_getElem (by simpa using hlt), Array.getElem_modify_self, n2]
    rfl
set_option maxRecDepth 100000

set_option maxHeartbeats 1000000 in
theorem region5_any (b bx bs : Nat) (s : ByteArray) (p c o : Int) (a0 : Act) (w0 : World) (Q : Exit → Act → World → Prop) (hz : a0.tmps.size = 352) (hd : a0.defers = [])
    (h2 : a0.tmps.getD 2 undef = .pointer (some ⟨bx, 0, none⟩)) (h4 : a0.tmps.getD 4 undef = .pointer (some ⟨bs, 0, none⟩))
    (hbx : w0.cell? ⟨bx, 0, none⟩ = some (.pointer (some ⟨b, 0, none⟩))) (hbs : w0.cell? ⟨bs, 0, none⟩ = some (.string s)) (hc1 : w0.cell? ⟨b, 1, none⟩ = some (.int .i64 p))
    (hp0 : 0 ≤ p) (hp : p + 1 < s.size) (hs : s.size ≤ 100) (hcc : c = (bt s (p + 1).toNat : Nat)) (hco : Go.bits .or .u8 c 32 = o) (ho : o = 120 ∨ o = 111 ∨ o = 98)
    (hfin : ∀ (a' : Act) (w' : World) (r8 : Nat), a'.tmps.size = 352 → a'.defers = [] → (∀ j, j ≠ 8 → (j < 74 ∨ 84 < j) → a'.tmps.getD j undef = a0.tmps.getD j undef) → a'.tmps.getD 8 undef = .pointer (some ⟨r8, 0, none⟩) →
      w0.heap.size ≤ r8 → w'.heap[r8]? = some (.cells #[.int .i64 (vk o)] 3 (0, 0)) → w0.grownBy w' none → Q .normal a' w') :
    Code.wp Tryd.prog (c19 [true, true, true, true, false, true, false, false]) Q a0 w0 := by
  conv => arg 2; whnf
  refine wp_region_inv (by kernel_rfl) (fun L a w => L.size = 16 ∧ ∃ r8 r74 ks, SlotA L a0 a b s p c o r8 r74 ∧ WorldA L w0 w o r8 r74 ks) ?_ ?_ ?_ ?_
  · have rp : ∀ k, ¬ (Array.replicate 16 false).getD k false = true := by
      intro k h
      rw [Array.getD_eq_getD_getElem?, Array.getElem?_replicate] at h
      split at h <;> simp at h
    refine ⟨by simp, 0, 0, [], ⟨hd, hz, fun _ _ _ => rfl, fun i x hi hl _ => absurd hl (rp i)⟩, ⟨⟨rfl, rfl, rfl, Nat.le_refl _, fun _ _ _ => rfl⟩, fun h => absurd h (rp _), fun h => absurd h (rp _), fun h => absurd h (rp _), fun h => absurd h (rp _), fun h => absurd h (rp _), fun h => absurd h (rp _), fun h => absurd h (rp _), fun h => absurd h (rp _)⟩⟩
  · intro i o ho
    have hi : i < 16 := by
      have := (Array.getElem?_eq_some_iff.1 ho).1
      simpa using this
    have hcases : i = 0 ∨ i = 1 ∨ i = 2 ∨ i = 3 ∨ i = 4 ∨ i = 5 ∨ i = 6 ∨ i = 7 ∨ i = 8 ∨ i = 9 ∨ i = 10 ∨ i = 11 ∨ i = 12 ∨ i = 13 ∨ i = 14 ∨ i = 15 := by omega
    rcases hcases with rfl | rfl | rfl | rfl | rfl | rfl | rfl | rfl | rfl | rfl | rfl | rfl | rfl | rfl | rfl | rfl
    all_goals
      injection ho with ho
      subst ho
      decide +kernel
  · intro L a w i oo hLs hoo hl hdep ⟨hL, r8, r74, ks, hA, hW⟩ K hK
    have hi : i < 16 := by
      have := (Array.getElem?_eq_some_iff.1 hoo).1
      simpa using this
    have hcases : i = 0 ∨ i = 1 ∨ i = 2 ∨ i = 3 ∨ i = 4 ∨ i = 5 ∨ i = 6 ∨ i = 7 ∨ i = 8 ∨ i = 9 ∨ i = 10 ∨ i = 11 ∨ i = 12 ∨ i = 13 ∨ i = 14 ∨ i = 15 := by omega
    rcases hcases with rfl | rfl | rfl | rfl | rfl | rfl | rfl | rfl | rfl | rfl | rfl | rfl | rfl | rfl | rfl | rfl
    · injection hoo with hoo
      subst hoo
      rw [if_pos (by rfl)]
      have h4f : L.getD 4 false = false := by
        cases h : L.getD 4 false with
        | false => rfl
        | true => have := (hW.c h).1; rw [hl] at this; exact absurd this (by simp)
      unfold Oper.wp
      simp [execOp, go_sem]
      refine hK _ _ ⟨by simpa using hL, r8, w.heap.size, [], hA.put hL 0 (by omega) (74, _) r8 w.heap.size rfl (.inl rfl) (.inr ⟨rfl, h4f⟩), ?_⟩
      exact hW.make hL hl
    · injection hoo with hoo
      subst hoo
      rw [if_pos (by rfl)]
      have q74 : a.tmps.getD 74 undef = .map (some r74) := hA.at_ 0 (74, _) (by omega) (hdep { on := 0, ground := .data } (by simp) rfl) rfl
      obtain ⟨m1, m2, m3, m4, m5⟩ := hW.m (hdep { on := 0, ground := .data } (by simp) rfl)
      have hnk : (120 : Int) ∉ ks := fun h => by have := (m3.1 h); rw [hl] at this; exact absurd this (by simp)
      obtain ⟨w', hr, hM, hG⟩ := run_insK m2 hnk
      rw [show vk 120 = 16 from rfl] at hr
      unfold Oper.wp
      simp [execOp, go_sem, q74, hr]
      exact hK _ _ ⟨by simpa using hL, r8, r74, ks ++ [120], hA.none hL 1 (by omega) rfl undef, hW.ins hL 1 120 (by omega) (hdep { on := 0, ground := .data } (by simp) rfl) hM hG⟩
    · injection hoo with hoo
      subst hoo
      rw [if_pos (by rfl)]
      have q74 : a.tmps.getD 74 undef = .map (some r74) := hA.at_ 0 (74, _) (by omega) (hdep { on := 0, ground := .data } (by simp) rfl) rfl
      obtain ⟨m1, m2, m3, m4, m5⟩ := hW.m (hdep { on := 0, ground := .data } (by simp) rfl)
      have hnk : (111 : Int) ∉ ks := fun h => by have := (m4.1 h); rw [hl] at this; exact absurd this (by simp)
      obtain ⟨w', hr, hM, hG⟩ := run_insK m2 hnk
      rw [show vk 111 = 8 from rfl] at hr
      unfold Oper.wp
      simp [execOp, go_sem, q74, hr]
      exact hK _ _ ⟨by simpa using hL, r8, r74, ks ++ [111], hA.none hL 2 (by omega) rfl undef, hW.ins hL 2 111 (by omega) (hdep { on := 0, ground := .data } (by simp) rfl) hM hG⟩
    · injection hoo with hoo
      subst hoo
      rw [if_pos (by rfl)]
      have q74 : a.tmps.getD 74 undef = .map (some r74) := hA.at_ 0 (74, _) (by omega) (hdep { on := 0, ground := .data } (by simp) rfl) rfl
      obtain ⟨m1, m2, m3, m4, m5⟩ := hW.m (hdep { on := 0, ground := .data } (by simp) rfl)
      have hnk : (98 : Int) ∉ ks := fun h => by have := (m5.1 h); rw [hl] at this; exact absurd this (by simp)
      obtain ⟨w', hr, hM, hG⟩ := run_insK m2 hnk
      rw [show vk 98 = 2 from rfl] at hr
      unfold Oper.wp
      simp [execOp, go_sem, q74, hr]
      exact hK _ _ ⟨by simpa using hL, r8, r74, ks ++ [98], hA.none hL 3 (by omega) rfl undef, hW.ins hL 3 98 (by omega) (hdep { on := 0, ground := .data } (by simp) rfl) hM hG⟩
    · injection hoo with hoo
      subst hoo
      rw [if_pos (by rfl)]
      have q74 : a.tmps.getD 74 undef = .map (some r74) := hA.at_ 0 (74, _) (by omega) (hdep { on := 0, ground := .data } (by simp) rfl) rfl
      unfold Oper.wp
      simp [execOp, go_sem, q74]
      exact hK _ _ ⟨by simpa using hL, r8, r74, ks, hA.put hL 4 (by omega) (75, _) r8 r74 rfl (.inl rfl) (.inl rfl), hW.same hL 4 (by omega) (by omega) (fun _ => ⟨hdep { on := 0, ground := .data } (by simp) rfl, hdep { on := 1, ground := .data } (by simp) rfl, hdep { on := 2, ground := .data } (by simp) rfl, hdep { on := 3, ground := .data } (by simp) rfl⟩) (fun h => absurd h (by omega))⟩
    · injection hoo with hoo
      subst hoo
      rw [if_pos (by rfl)]
      have q4 := (hA.far 4 (by omega) (by omega)).trans h4
      have k4 := gbn_cell hW.g hbs
      unfold Oper.wp
      simp [execOp, go_sem, q4, k4]
      exact hK _ _ ⟨by simpa using hL, r8, r74, ks, hA.put hL 5 (by omega) (76, _) r8 r74 rfl (.inl rfl) (.inl rfl), hW.same hL 5 (by omega) (by omega) (fun h => absurd h (by omega)) (fun h => absurd h (by omega))⟩
    · injection hoo with hoo
      subst hoo
      rw [if_pos (by rfl)]
      have q2 := (hA.far 2 (by omega) (by omega)).trans h2
      have k2 := gbn_cell hW.g hbx
      unfold Oper.wp
      simp [execOp, go_sem, q2, k2]
      exact hK _ _ ⟨by simpa using hL, r8, r74, ks, hA.put hL 6 (by omega) (77, _) r8 r74 rfl (.inl rfl) (.inl rfl), hW.same hL 6 (by omega) (by omega) (fun h => absurd h (by omega)) (fun h => absurd h (by omega))⟩
    · injection hoo with hoo
      subst hoo
      rw [if_pos (by rfl)]
      have q77 : a.tmps.getD 77 undef = Value.pointer (some ⟨b, 0, none⟩) := hA.at_ 6 (77, _) (by omega) (hdep { on := 6, ground := .data } (by simp) rfl) rfl
      unfold Oper.wp
      simp [execOp, go_sem, q77]
      exact hK _ _ ⟨by simpa using hL, r8, r74, ks, hA.put hL 7 (by omega) (78, _) r8 r74 rfl (.inl rfl) (.inl rfl), hW.same hL 7 (by omega) (by omega) (fun h => absurd h (by omega)) (fun h => absurd h (by omega))⟩
    · injection hoo with hoo
      subst hoo
      rw [if_pos (by rfl)]
      have q78 : a.tmps.getD 78 undef = Value.pointer (some ⟨b, 0, none⟩) := hA.at_ 7 (78, _) (by omega) (hdep { on := 7, ground := .data } (by simp) rfl) rfl
      unfold Oper.wp
      simp [execOp, go_sem, q78]
      exact hK _ _ ⟨by simpa using hL, r8, r74, ks, hA.put hL 8 (by omega) (79, _) r8 r74 rfl (.inl rfl) (.inl rfl), hW.same hL 8 (by omega) (by omega) (fun h => absurd h (by omega)) (fun h => absurd h (by omega))⟩
    · injection hoo with hoo
      subst hoo
      rw [if_pos (by rfl)]
      have q79 : a.tmps.getD 79 undef = Value.pointer (some ⟨b, 1, none⟩) := hA.at_ 8 (79, _) (by omega) (hdep { on := 8, ground := .data } (by simp) rfl) rfl
      have k1 := gbn_cell hW.g hc1
      unfold Oper.wp
      simp [execOp, go_sem, q79, k1]
      exact hK _ _ ⟨by simpa using hL, r8, r74, ks, hA.put hL 9 (by omega) (80, _) r8 r74 rfl (.inl rfl) (.inl rfl), hW.same hL 9 (by omega) (by omega) (fun h => absurd h (by omega)) (fun h => absurd h (by omega))⟩
    · injection hoo with hoo
      subst hoo
      rw [if_pos (by rfl)]
      have q80 : a.tmps.getD 80 undef = .int .i64 p := hA.at_ 9 (80, _) (by omega) (hdep { on := 9, ground := .data } (by simp) rfl) rfl
      have y1 : IntKind.i64.wrap (p + 1) = p + 1 := IntWalk.i64_in _ (by omega)
      unfold Oper.wp
      simp [execOp, go_sem, q80, y1]
      exact hK _ _ ⟨by simpa using hL, r8, r74, ks, hA.put hL 10 (by omega) (81, _) r8 r74 rfl (.inl rfl) (.inl rfl), hW.same hL 10 (by omega) (by omega) (fun h => absurd h (by omega)) (fun h => absurd h (by omega))⟩
    · injection hoo with hoo
      subst hoo
      rw [if_pos (by rfl)]
      have q76 : a.tmps.getD 76 undef = .string s := hA.at_ 5 (76, _) (by omega) (hdep { on := 5, ground := .data } (by simp) rfl) rfl
      have q81 : a.tmps.getD 81 undef = .int .i64 (p + 1) := hA.at_ 10 (81, _) (by omega) (hdep { on := 10, ground := .data } (by simp) rfl) rfl
      have y1 : (0 : Int) ≤ p + 1 := by omega
      unfold Oper.wp
      simp [execOp, go_sem, q76, q81, y1, hp]
      have hcv : ((s[(p + 1).toNat]'(by omega)).toNat : Int) = c := by rw [hcc, bt_eq (by omega : (p + 1).toNat < s.size)]
      rw [hcv]
      exact hK _ _ ⟨by simpa using hL, r8, r74, ks, hA.put hL 11 (by omega) (82, _) r8 r74 rfl (.inl rfl) (.inl rfl), hW.same hL 11 (by omega) (by omega) (fun h => absurd h (by omega)) (fun h => absurd h (by omega))⟩
    · injection hoo with hoo
      subst hoo
      rw [if_pos (by rfl)]
      have q82 : a.tmps.getD 82 undef = .int .u8 c := hA.at_ 11 (82, _) (by omega) (hdep { on := 11, ground := .data } (by simp) rfl) rfl
      unfold Oper.wp
      simp [execOp, go_sem, q82, hco]
      exact hK _ _ ⟨by simpa using hL, r8, r74, ks, hA.put hL 12 (by omega) (83, _) r8 r74 rfl (.inl rfl) (.inl rfl), hW.same hL 12 (by omega) (by omega) (fun h => absurd h (by omega)) (fun h => absurd h (by omega))⟩
    · injection hoo with hoo
      subst hoo
      rw [if_pos (by rfl)]
      have q75 : a.tmps.getD 75 undef = .map (some r74) := hA.at_ 4 (75, _) (by omega) (hdep { on := 4, ground := .data } (by simp) rfl) rfl
      have q83 : a.tmps.getD 83 undef = .int .u8 o := hA.at_ 12 (83, _) (by omega) (hdep { on := 12, ground := .data } (by simp) rfl) rfl
      have h4l : L.getD 4 false = true := hdep { on := 4, ground := .data } (by simp) rfl
      obtain ⟨n0, n1, n2, n3⟩ := hW.c h4l
      obtain ⟨m1, m2, m3, m4, m5⟩ := hW.m n0
      have hin : o ∈ ks := by rcases ho with h | h | h <;> subst h <;> simp_all
      have hr := run_lookK m2 hin
      unfold Oper.wp
      simp [execOp, go_sem, q75, q83, hr]
      exact hK _ _ ⟨by simpa using hL, r8, r74, ks, hA.put hL 13 (by omega) (84, _) r8 r74 rfl (.inl rfl) (.inl rfl), hW.same hL 13 (by omega) (by omega) (fun h => absurd h (by omega)) (fun _ => h4l)⟩
    · injection hoo with hoo
      subst hoo
      rw [if_pos (by rfl)]
      unfold Oper.wp
      simp [execOp, go_sem]
      exact hK _ _ ⟨by simpa using hL, w.heap.size, r74, ks, hA.put hL 14 (by omega) (8, _) w.heap.size r74 rfl (.inr rfl) (.inl rfl), hW.cell hL hl _⟩
    · injection hoo with hoo
      subst hoo
      rw [if_pos (by rfl)]
      have q8 : a.tmps.getD 8 undef = Value.pointer (some ⟨r8, 0, none⟩) := hA.at_ 14 (8, _) (by omega) (hdep { on := 14, ground := .data } (by simp) rfl) rfl
      have q84 : a.tmps.getD 84 undef = .int .i64 (vk o) := hA.at_ 13 (84, _) (by omega) (hdep { on := 13, ground := .data } (by simp) rfl) rfl
      obtain ⟨m1, v0, m2, m3⟩ := hW.n (hdep { on := 14, ground := .data } (by simp) rfl)
      have k8 : w.cell? ⟨r8, 0, none⟩ = some v0 := by simp [World.cell?, m2]
      have f8 : w.frozen? ⟨r8, 0, none⟩ = false := by simp [World.frozen?, m2]
      unfold Oper.wp
      simp [execOp, go_sem, q8, q84, k8, f8]
      exact hK _ _ ⟨by simpa using hL, r8, r74, ks, hA.none hL 15 (by omega) rfl undef, hW.set hL (hdep { on := 14, ground := .data } (by simp) rfl)⟩
  · intro L a w hall ⟨hL, r8, r74, ks, hA, hW⟩
    have hall : ∀ i, i < 16 → L.getD i false = true := fun i hi => hall i (by simpa using hi)
    obtain ⟨n1, v, n2, n3⟩ := hW.n (hall 14 (by omega))
    rw [n3 (hall 15 (by omega))] at n2
    exact hfin a w r8 hA.z hA.d hA.far (hA.at_ 14 (8, _) (by omega) (hall 14 (by omega)) rfl) n1 n2 hW.g
set_option maxRecDepth 100000

/-- the slots, as far as the operations have come up -/
structure SlotG (n z : Nat) (lo hi : Nat) (ex : Nat → Option (Nat × Value)) (L : Array Bool) (a0 a : Act) : Prop where
  d : a.defers = []
  z : a.tmps.size = z
  far : ∀ j, (j < lo ∨ hi < j) → a.tmps.getD j undef = a0.tmps.getD j undef
  at_ : ∀ i x, i < n → L.getD i false = true → ex i = some x → a.tmps.getD x.1 undef = x.2
theorem put_getG {a : Act} {z : Nat} (hz : a.tmps.size = z) (d : Nat) (hd : d < z) (v : Value) (j : Nat) : (a.put (some d) v).tmps.getD j undef = if j = d then v else a.tmps.getD j undef := by
  show (a.tmps.setIfInBounds d v).getD j undef = _
  rw [Array.getD_eq_getD_getElem?, Array.getD_eq_getD_getElem?, Array.getElem?_setIfInBounds]
  by_cases h : j = d
  · subst h
    rw [if_pos rfl, if_pos (by omega), if_pos rfl]
    rfl
  · rw [if_neg (fun e => h e.symm), if_neg h]
theorem lset_getG {n : Nat} {L : Array Bool} (hz : L.size = n) (i : Nat) (hi : i < n) (k : Nat) : (L.setIfInBounds i true).getD k false = if k = i then true else L.getD k false := by
  rw [Array.getD_eq_getD_getElem?, Array.getD_eq_getD_getElem?, Array.getElem?_setIfInBounds]
  by_cases h : k = i
  · subst h
    rw [if_pos rfl, if_pos (by omega), if_pos rfl]
    rfl
  · rw [if_neg (fun e => h e.symm), if_neg h]
theorem SlotG.put {n z lo hi : Nat} {ex ex' : Nat → Option (Nat × Value)} {L : Array Bool} {a0 a : Act} (h : SlotG n z lo hi ex L a0 a) (hL : L.size = n) (i : Nat) (hi' : i < n) (x : Nat × Value) (hx : ex' i = some x) (hlo : lo ≤ x.1) (hhi : x.1 ≤ hi) (hz : hi < z)
    (hsame : ∀ k, k < n → k ≠ i → L.getD k false = true → ex' k = ex k) (hdist : ∀ k y, k ≠ i → ex' k = some y → y.1 ≠ x.1) : SlotG n z lo hi ex' (L.setIfInBounds i true) a0 (a.put (some x.1) x.2) := by
  have hxz : x.1 < z := by omega
  refine ⟨h.d, by show (a.tmps.setIfInBounds _ _).size = z; rw [Array.size_setIfInBounds]; exact h.z, fun j hj => ?_, fun k y hk hl hy => ?_⟩
  · rw [put_getG h.z _ hxz, if_neg (by omega)]; exact h.far j hj
  · rw [put_getG h.z _ hxz]
    by_cases hki : k = i
    · subst hki
      rw [hx, Option.some.injEq] at hy
      rw [hy, if_pos rfl]
    · rw [if_neg (hdist k y hki hy)]
      rw [lset_getG hL i hi', if_neg hki] at hl
      exact h.at_ k y hk hl (by rw [← hsame k hk hki hl]; exact hy)
theorem SlotG.none {n z lo hi : Nat} {ex : Nat → Option (Nat × Value)} {L : Array Bool} {a0 a : Act} (h : SlotG n z lo hi ex L a0 a) (hL : L.size = n) (i : Nat) (hi' : i < n) (hx : ex i = none) (v : Value) : SlotG n z lo hi ex (L.setIfInBounds i true) a0 (a.put none v) := by
  refine ⟨h.d, h.z, h.far, fun k y hk hl hy => ?_⟩
  by_cases hki : k = i
  · subst hki; rw [hx] at hy; exact absurd hy (by simp)
  · rw [lset_getG hL i hi', if_neg hki] at hl
    exact h.at_ k y hk hl hy
theorem repF (n k : Nat) : ¬ (Array.replicate n false).getD k false = true := by
  intro h
  rw [Array.getD_eq_getD_getElem?, Array.getElem?_replicate] at h
  split at h <;> simp at h

/-- what each operation lays in the region that appends a number's token -/
def exA (b : Nat) (s tx : ByteArray) (p d f : Nat) (z : Bool) (o tk V : Value) (r : Nat) : Nat → Option (Nat × Value)
  | 0 => some (333, .pointer (some ⟨b, 0, none⟩))
  | 1 => some (334, .pointer (some ⟨b, 0, none⟩))
  | 2 => some (335, .pointer (some ⟨b, 0, none⟩))
  | 3 => some (336, .pointer (some ⟨b, 2, none⟩))
  | 4 => some (337, o)
  | 5 => some (338, .float .f64 f)
  | 6 => some (339, .string s)
  | 7 => some (340, .int .i64 p)
  | 8 => some (341, .pointer (some ⟨b, 0, none⟩))
  | 9 => some (342, .pointer (some ⟨b, 0, none⟩))
  | 10 => some (343, .pointer (some ⟨b, 1, none⟩))
  | 11 => some (344, .int .i64 d)
  | 12 => some (345, .string tx)
  | 13 => some (346, .bool z)
  | 14 => some (347, tk)
  | 15 => some (348, .slice (some ⟨r, 0, none⟩) 1 1)
  | 16 => some (349, V)
  | 17 => some (350, .pointer (some ⟨b, 0, none⟩))
  | 18 => some (351, .pointer (some ⟨b, 2, none⟩))
  | _ => none
theorem exA_slot {b : Nat} {s tx : ByteArray} {p d f : Nat} {z : Bool} {o tk V : Value} {r i : Nat} {x : Nat × Value} (h : exA b s tx p d f z o tk V r i = some x) : x.1 = i + 333 ∧ i < 19 := by
  unfold exA at h
  split at h <;> simp at h <;> subst h <;> simp
theorem exA_V {b : Nat} {s tx : ByteArray} {p d f : Nat} {z : Bool} {o tk V V' : Value} {r i : Nat} (h : i ≠ 16) : exA b s tx p d f z o tk V r i = exA b s tx p d f z o tk V' r i := by
  unfold exA
  split <;> first
    | rfl
    | omega
set_option maxRecDepth 100000

theorem nl {L : Array Bool} {i : Nat} (h : L.getD i false = false) : ¬ L.getD i false = true := by rw [h]; simp
/-- the cells of a number's token -/
def ncells (tx : ByteArray) (f : Nat) (z : Bool) : Array Value := #[.int .i64 2, .string tx, .float .f64 f, .bool z, .bool false, .bool false, .bool false, .int .i64 0, .int .i64 0]
/-- the world, while the region runs; W: as it begins -/
structure WorldB (B b bx bs : Nat) (s tx : ByteArray) (f : Nat) (z : Bool) (op : Bool) (d : Nat) (n : Nat) (xs : List Value) (o dd q : Value) (la co : Bool) (L : Array Bool) (W w : World) (V : Value) : Prop where
  st0 : ¬ L.getD 15 false = true → w = W
  st1 : L.getD 15 false = true → ¬ L.getD 16 false = true → w = W.alloc (.cells (ncells tx f z) 31)
  st2 : L.getD 16 false = true → ∃ g2 cap2 w1, V = .slice (some ⟨g2, 0, none⟩) (n + 1) cap2 ∧ w1.ownsRow B 31 9 V (n + 1) (xs ++ (ncells tx f z).toList) ∧ (W.alloc (.cells (ncells tx f z) 31)).grownBy w1 o.ownBlock ∧ (o.ownBlock = some g2 ∨ g2 = W.heap.size + 1) ∧
    (¬ L.getD 19 false = true → w = w1) ∧ (L.getD 19 false = true → w = w1.setCell ⟨b, 2, none⟩ V)
  a16 : L.getD 16 false = true → L.getD 15 false = true ∧ L.getD 4 false = true
  a19 : L.getD 19 false = true → ∀ k, k < 17 → L.getD k false = true
  lx : LX W b s d o dd op q la co
  kx : W.cell? ⟨bx, 0, none⟩ = some (.pointer (some ⟨b, 0, none⟩))
  ks : W.cell? ⟨bs, 0, none⟩ = some (.string s)
  ob : o.ownBlock ≠ some b
  ox : o.ownBlock ≠ some bx
  os : o.ownBlock ≠ some bs
theorem WorldB.b4 {B b bx bs : Nat} {s tx : ByteArray} {f : Nat} {z op : Bool} {d n : Nat} {xs : List Value} {o dd q : Value} {la co : Bool} {L : Array Bool} {W w : World} {V : Value} (h : WorldB B b bx bs s tx f z op d n xs o dd q la co L W w V)
    (hl : L.getD 4 false = false) : L.getD 16 false = false := by
  cases e : L.getD 16 false with
  | false => rfl
  | true => exact absurd (h.a16 e).2 (by rw [hl]; simp)
theorem WorldB.n19 {B b bx bs : Nat} {s tx : ByteArray} {f : Nat} {z op : Bool} {d n : Nat} {xs : List Value} {o dd q : Value} {la co : Bool} {L : Array Bool} {W w : World} {V : Value} (h : WorldB B b bx bs s tx f z op d n xs o dd q la co L W w V)
    {k : Nat} (hl : L.getD k false = false) (hk : k < 17) : L.getD 19 false = false := by
  cases e : L.getD 19 false with
  | false => rfl
  | true => exact absurd (h.a19 e k hk) (by rw [hl]; simp)
/-- what is read there -/
theorem WorldB.cells {B b bx bs : Nat} {s tx : ByteArray} {f : Nat} {z op : Bool} {d n : Nat} {xs : List Value} {o dd q : Value} {la co : Bool} {L : Array Bool} {W w : World} {V : Value} (h : WorldB B b bx bs s tx f z op d n xs o dd q la co L W w V)
    (hl : ¬ L.getD 19 false = true) : w.cell? ⟨b, 0, none⟩ = some (.string s) ∧ w.cell? ⟨b, 1, none⟩ = some (.int .i64 d) ∧ (¬ L.getD 16 false = true → w.cell? ⟨b, 2, none⟩ = some o) ∧ w.cell? ⟨bx, 0, none⟩ = some (.pointer (some ⟨b, 0, none⟩)) ∧ w.cell? ⟨bs, 0, none⟩ = some (.string s) := by
  have e1 := h.lx.cells
  have hg := World.grownBy_alloc W (.cells (ncells tx f z) 31) none
  by_cases h15 : L.getD 15 false = true
  · by_cases h16 : L.getD 16 false = true
    · obtain ⟨g2, cap2, w1, _, _, hgr, _, hw, _⟩ := h.st2 h16
      rw [hw hl]
      have key : ∀ (a : Addr) (v : Value), o.ownBlock ≠ some a.block → W.cell? a = some v → w1.cell? a = some v := by
        intro a v ha hv
        have h1 := gbn_cell hg hv
        rw [World.cell?_of_block (hgr.block a.block (lt_cell h1) (by intro e; exact ha e.symm))]
        exact h1
      exact ⟨key _ _ h.ob e1.1, key _ _ h.ob e1.2.1, fun e => absurd h16 e, key _ _ h.ox h.kx, key _ _ h.os h.ks⟩
    · rw [h.st1 h15 h16]
      exact ⟨gbn_cell hg e1.1, gbn_cell hg e1.2.1, fun _ => gbn_cell hg e1.2.2.1, gbn_cell hg h.kx, gbn_cell hg h.ks⟩
  · rw [h.st0 h15]
    exact ⟨e1.1, e1.2.1, fun _ => e1.2.2.1, h.kx, h.ks⟩
theorem WorldB.same {B b bx bs : Nat} {s tx : ByteArray} {f : Nat} {z op : Bool} {d n : Nat} {xs : List Value} {o dd q : Value} {la co : Bool} {L : Array Bool} {W w : World} {V : Value} (h : WorldB B b bx bs s tx f z op d n xs o dd q la co L W w V)
    (hL : L.size = 20) (i : Nat) (hi : i < 20) (hne : i ≠ 15 ∧ i ≠ 16 ∧ i ≠ 19) : WorldB B b bx bs s tx f z op d n xs o dd q la co (L.setIfInBounds i true) W w V := by
  obtain ⟨n15, n16, n19⟩ := hne
  refine ⟨?_, ?_, ?_, ?_, ?_, h.lx, h.kx, h.ks, h.ob, h.ox, h.os⟩
  · simp only [lset_getG hL i hi, if_neg n15.symm]; exact h.st0
  · simp only [lset_getG hL i hi, if_neg n15.symm, if_neg n16.symm]; exact h.st1
  · simp only [lset_getG hL i hi, if_neg n16.symm, if_neg n19.symm]; exact h.st2
  · simp only [lset_getG hL i hi, if_neg n15.symm, if_neg n16.symm]
    intro e
    refine ⟨(h.a16 e).1, ?_⟩
    by_cases e4 : 4 = i
    · rw [if_pos e4]
    · rw [if_neg e4]; exact (h.a16 e).2
  · simp only [lset_getG hL i hi, if_neg n19.symm]
    intro e k hk
    by_cases ek : k = i
    · rw [if_pos ek]
    · rw [if_neg ek]; exact h.a19 e k hk

theorem WorldB.alloc {B b bx bs : Nat} {s tx : ByteArray} {f : Nat} {z op : Bool} {d n : Nat} {xs : List Value} {o dd q : Value} {la co : Bool} {L : Array Bool} {W w : World} {V : Value} (h : WorldB B b bx bs s tx f z op d n xs o dd q la co L W w V)
    (hL : L.size = 20) (h16 : L.getD 16 false = false) (h19 : L.getD 19 false = false) : WorldB B b bx bs s tx f z op d n xs o dd q la co (L.setIfInBounds 15 true) W (W.alloc (.cells (ncells tx f z) 31)) V := by
  refine ⟨?_, ?_, ?_, ?_, ?_, h.lx, h.kx, h.ks, h.ob, h.ox, h.os⟩
  · simp only [lset_getG hL 15 (by omega)]; intro h; exact absurd rfl h
  · intro _ _; rfl
  · simp only [lset_getG hL 15 (by omega)]; intro e; exact absurd e (by simp [h16])
  · simp only [lset_getG hL 15 (by omega)]; intro e; exact absurd e (by simp [h16])
  · simp only [lset_getG hL 15 (by omega)]; intro e; exact absurd e (by simp [h19])
theorem WorldB.app {B b bx bs : Nat} {s tx : ByteArray} {f : Nat} {z op : Bool} {d n : Nat} {xs : List Value} {o dd q : Value} {la co : Bool} {L : Array Bool} {W w w1 : World} {V V' : Value} {g2 cap2 : Nat} (h : WorldB B b bx bs s tx f z op d n xs o dd q la co L W w V)
    (hL : L.size = 20) (h15 : L.getD 15 false = true) (h4 : L.getD 4 false = true) (h19 : L.getD 19 false = false) (hV : V' = .slice (some ⟨g2, 0, none⟩) (n + 1) cap2)
    (h1 : w1.ownsRow B 31 9 V' (n + 1) (xs ++ (ncells tx f z).toList)) (h2 : (W.alloc (.cells (ncells tx f z) 31)).grownBy w1 o.ownBlock) (h3 : o.ownBlock = some g2 ∨ g2 = W.heap.size + 1) :
    WorldB B b bx bs s tx f z op d n xs o dd q la co (L.setIfInBounds 16 true) W w1 V' := by
  refine ⟨?_, ?_, ?_, ?_, ?_, h.lx, h.kx, h.ks, h.ob, h.ox, h.os⟩
  · simp only [lset_getG hL 16 (by omega)]; intro e; exact absurd h15 (by simpa using e)
  · simp only [lset_getG hL 16 (by omega)]; intro _ e; exact absurd rfl e
  · intro _
    exact ⟨g2, cap2, w1, hV, h1, h2, h3, fun _ => rfl, fun e => by rw [lset_getG hL 16 (by omega)] at e; exact absurd e (by simp [h19])⟩
  · simp only [lset_getG hL 16 (by omega)]; intro _; simp [h15, h4]
  · simp only [lset_getG hL 16 (by omega)]; intro e; exact absurd e (by simp [h19])
theorem WorldB.set {B b bx bs : Nat} {s tx : ByteArray} {f : Nat} {z op : Bool} {d n : Nat} {xs : List Value} {o dd q : Value} {la co : Bool} {L : Array Bool} {W w : World} {V : Value} (h : WorldB B b bx bs s tx f z op d n xs o dd q la co L W w V)
    (hL : L.size = 20) (hl : L.getD 19 false = false) (hall : ∀ k, k < 17 → L.getD k false = true) : WorldB B b bx bs s tx f z op d n xs o dd q la co (L.setIfInBounds 19 true) W (w.setCell ⟨b, 2, none⟩ V) V := by
  refine ⟨?_, ?_, ?_, ?_, ?_, h.lx, h.kx, h.ks, h.ob, h.ox, h.os⟩
  · simp only [lset_getG hL 19 (by omega)]; intro e; exact absurd (hall 15 (by omega)) (by simpa using e)
  · simp only [lset_getG hL 19 (by omega)]; intro _ e; exact absurd (hall 16 (by omega)) (by simpa using e)
  · intro _
    obtain ⟨g2, cap2, w1, a1, a2, a3, a4, a5, a6⟩ := h.st2 (hall 16 (by omega))
    refine ⟨g2, cap2, w1, a1, a2, a3, a4, fun e => ?_, fun _ => by rw [a5 (nl hl)]⟩
    rw [lset_getG hL 19 (by omega)] at e
    exact absurd rfl e
  · simp only [lset_getG hL 19 (by omega)]; intro _; simp [hall 15 (by omega), hall 4 (by omega)]
  · simp only [lset_getG hL 19 (by omega)]; intro _ k hk; simp [hall k hk]

set_option maxHeartbeats 2000000 in
theorem region34_any (B b bx bs : Nat) (z op : Bool) (s : ByteArray) (p d f : Nat) (Ts : List Tok) (D : List Int) (O : List (Bool × Int)) (o dd q : Value) (la co : Bool) (a0 : Act) (w0 : World) (Q : Exit → Act → World → Prop) (hz : a0.tmps.size = 352) (hd : a0.defers = [])
    (h1 : a0.tmps.getD 1 undef = .bool z) (h2 : a0.tmps.getD 2 undef = .pointer (some ⟨bx, 0, none⟩)) (h4 : a0.tmps.getD 4 undef = .pointer (some ⟨bs, 0, none⟩)) (h5 : a0.tmps.getD 5 undef = .int .i64 p) (h7 : a0.tmps.getD 7 undef = .float .f64 f)
    (hV : LV B b s w0 d op Ts D O o dd q la co) (hbx : w0.cell? ⟨bx, 0, none⟩ = some (.pointer (some ⟨b, 0, none⟩))) (hbs : w0.cell? ⟨bs, 0, none⟩ = some (.string s)) (hox : o.ownBlock ≠ some bx) (hos : o.ownBlock ≠ some bs)
    (hpd : p ≤ d) (hds : d ≤ s.size) (hTs : Ts.length ≤ 200)
    (hfin : ∀ (a' : Act) (w' : World) (t : Tok), t.k = 2 → t.f = f → LS B b s w' d op (Ts ++ [t]) D O → Below B w0 w' → a'.defers = [] → Q .normal a' w') :
    Code.wp Tryd.prog (c19 [true, true, true, true, true, true]) Q a0 w0 := by
  have s1 : (p : Int) ≤ d := by omega
  have s2 : (d : Int) ≤ s.size := by omega
  have s3 : (0 : Int) ≤ p := by omega
  obtain ⟨tx, htx⟩ : ∃ tx, tx = s.extract p d := ⟨_, rfl⟩
  obtain ⟨tk, htk⟩ : ∃ tk, tk = Value.agg (ncells tx f z) := ⟨_, rfl⟩
  obtain ⟨i0, hi0, hz0, hz1, hz2⟩ := info_parts info31
  have hVW : LV B b s { w0 with drawn := w0.drawn + 1 } d op Ts D O o dd q la co := hV.kept (gb_drewN (World.grownBy.refl _ _) 1)
  obtain ⟨p1, p2, p3, p4, p5⟩ := LV.pusho hVW ⟨2, tx, f, z, false, false, false, 0, 0⟩
  conv => arg 2; whnf
  refine wp_region_inv (by kernel_rfl) (fun L a w => L.size = 20 ∧ ∃ V, SlotG 20 352 333 351 (exA b s tx p d f z o tk V w0.heap.size) L a0 a ∧ WorldB B b bx bs s tx f z op d Ts.length (tcells Ts) o dd q la co L { w0 with drawn := w0.drawn + 1 } w V) ?_ ?_ ?_ ?_
  · exact ⟨by simp, undef, ⟨hd, hz, fun _ _ => rfl, fun i x hi hl _ => absurd hl (repF _ i)⟩, ⟨fun _ => rfl, fun h => absurd h (repF _ _), fun h => absurd h (repF _ _), fun h => absurd h (repF _ _), fun h => absurd h (repF _ _), hV.x, hbx, hbs, hV.ap.ob, hox, hos⟩⟩
  · intro i o ho
    have hi : i < 20 := by
      have := (Array.getElem?_eq_some_iff.1 ho).1
      simpa using this
    have hcases : i = 0 ∨ i = 1 ∨ i = 2 ∨ i = 3 ∨ i = 4 ∨ i = 5 ∨ i = 6 ∨ i = 7 ∨ i = 8 ∨ i = 9 ∨ i = 10 ∨ i = 11 ∨ i = 12 ∨ i = 13 ∨ i = 14 ∨ i = 15 ∨ i = 16 ∨ i = 17 ∨ i = 18 ∨ i = 19 := by omega
    rcases hcases with rfl | rfl | rfl | rfl | rfl | rfl | rfl | rfl | rfl | rfl | rfl | rfl | rfl | rfl | rfl | rfl | rfl | rfl | rfl | rfl
    all_goals
      injection ho with ho
      subst ho
      decide +kernel
  · intro L a w i oo hLs hoo hl hdep ⟨hL, V, hA, hW⟩ K hK
    have hi : i < 20 := by
      have := (Array.getElem?_eq_some_iff.1 hoo).1
      simpa using this
    have hcases : i = 0 ∨ i = 1 ∨ i = 2 ∨ i = 3 ∨ i = 4 ∨ i = 5 ∨ i = 6 ∨ i = 7 ∨ i = 8 ∨ i = 9 ∨ i = 10 ∨ i = 11 ∨ i = 12 ∨ i = 13 ∨ i = 14 ∨ i = 15 ∨ i = 16 ∨ i = 17 ∨ i = 18 ∨ i = 19 := by omega
    rcases hcases with rfl | rfl | rfl | rfl | rfl | rfl | rfl | rfl | rfl | rfl | rfl | rfl | rfl | rfl | rfl | rfl | rfl | rfl | rfl | rfl
    · injection hoo with hoo
      subst hoo
      rw [if_pos (by rfl)]
      have hl19 := hW.n19 hl (by omega)
      obtain ⟨k0, k1, k2, kx, ks⟩ := hW.cells (nl hl19)
      have r2 := (hA.far 2 (by omega)).trans h2
      unfold Oper.wp
      simp [execOp, go_sem, r2, kx]
      exact hK _ _ ⟨by simpa using hL, V, hA.put hL 0 (by omega) (333, _) rfl (by omega) (by omega) (by omega) (fun _ _ _ _ => rfl) (fun k y h1 h2 => by have := (exA_slot h2).1; show y.1 ≠ 333; omega), hW.same hL 0 (by omega) (by omega)⟩
    · injection hoo with hoo
      subst hoo
      rw [if_pos (by rfl)]
      have hl19 := hW.n19 hl (by omega)
      obtain ⟨k0, k1, k2, kx, ks⟩ := hW.cells (nl hl19)
      have r2 := (hA.far 2 (by omega)).trans h2
      unfold Oper.wp
      simp [execOp, go_sem, r2, kx]
      exact hK _ _ ⟨by simpa using hL, V, hA.put hL 1 (by omega) (334, _) rfl (by omega) (by omega) (by omega) (fun _ _ _ _ => rfl) (fun k y h1 h2 => by have := (exA_slot h2).1; show y.1 ≠ 334; omega), hW.same hL 1 (by omega) (by omega)⟩
    · injection hoo with hoo
      subst hoo
      rw [if_pos (by rfl)]
      have q334 : a.tmps.getD 334 undef = .pointer (some ⟨b, 0, none⟩) := hA.at_ 1 (334, _) (by omega) (hdep { on := 1, ground := .data } (by simp) rfl) rfl
      unfold Oper.wp
      simp [execOp, go_sem, q334]
      exact hK _ _ ⟨by simpa using hL, V, hA.put hL 2 (by omega) (335, _) rfl (by omega) (by omega) (by omega) (fun _ _ _ _ => rfl) (fun k y h1 h2 => by have := (exA_slot h2).1; show y.1 ≠ 335; omega), hW.same hL 2 (by omega) (by omega)⟩
    · injection hoo with hoo
      subst hoo
      rw [if_pos (by rfl)]
      have q335 : a.tmps.getD 335 undef = .pointer (some ⟨b, 0, none⟩) := hA.at_ 2 (335, _) (by omega) (hdep { on := 2, ground := .data } (by simp) rfl) rfl
      unfold Oper.wp
      simp [execOp, go_sem, q335]
      exact hK _ _ ⟨by simpa using hL, V, hA.put hL 3 (by omega) (336, _) rfl (by omega) (by omega) (by omega) (fun _ _ _ _ => rfl) (fun k y h1 h2 => by have := (exA_slot h2).1; show y.1 ≠ 336; omega), hW.same hL 3 (by omega) (by omega)⟩
    · injection hoo with hoo
      subst hoo
      rw [if_pos (by rfl)]
      have hl16 : L.getD 16 false = false := hW.b4 hl
      have hl19 := hW.n19 hl (by omega)
      have q336 : a.tmps.getD 336 undef = .pointer (some ⟨b, 2, none⟩) := hA.at_ 3 (336, _) (by omega) (hdep { on := 3, ground := .data } (by simp) rfl) rfl
      obtain ⟨k0, k1, k2, kx, ks⟩ := hW.cells (nl hl19)
      have k2 := k2 (nl hl16)
      unfold Oper.wp
      simp [execOp, go_sem, q336, k2]
      exact hK _ _ ⟨by simpa using hL, V, hA.put hL 4 (by omega) (337, _) rfl (by omega) (by omega) (by omega) (fun _ _ _ _ => rfl) (fun k y h1 h2 => by have := (exA_slot h2).1; show y.1 ≠ 337; omega), hW.same hL 4 (by omega) (by omega)⟩
    · injection hoo with hoo
      subst hoo
      rw [if_pos (by rfl)]
      have r7 := (hA.far 7 (by omega)).trans h7
      unfold Oper.wp
      simp [execOp, go_sem, r7]
      exact hK _ _ ⟨by simpa using hL, V, hA.put hL 5 (by omega) (338, _) rfl (by omega) (by omega) (by omega) (fun _ _ _ _ => rfl) (fun k y h1 h2 => by have := (exA_slot h2).1; show y.1 ≠ 338; omega), hW.same hL 5 (by omega) (by omega)⟩
    · injection hoo with hoo
      subst hoo
      rw [if_pos (by rfl)]
      have hl19 := hW.n19 hl (by omega)
      obtain ⟨k0, k1, k2, kx, ks⟩ := hW.cells (nl hl19)
      have r4 := (hA.far 4 (by omega)).trans h4
      unfold Oper.wp
      simp [execOp, go_sem, r4, ks]
      exact hK _ _ ⟨by simpa using hL, V, hA.put hL 6 (by omega) (339, _) rfl (by omega) (by omega) (by omega) (fun _ _ _ _ => rfl) (fun k y h1 h2 => by have := (exA_slot h2).1; show y.1 ≠ 339; omega), hW.same hL 6 (by omega) (by omega)⟩
    · injection hoo with hoo
      subst hoo
      rw [if_pos (by rfl)]
      have r5 := (hA.far 5 (by omega)).trans h5
      unfold Oper.wp
      simp [execOp, go_sem, r5]
      exact hK _ _ ⟨by simpa using hL, V, hA.put hL 7 (by omega) (340, _) rfl (by omega) (by omega) (by omega) (fun _ _ _ _ => rfl) (fun k y h1 h2 => by have := (exA_slot h2).1; show y.1 ≠ 340; omega), hW.same hL 7 (by omega) (by omega)⟩
    · injection hoo with hoo
      subst hoo
      rw [if_pos (by rfl)]
      have hl19 := hW.n19 hl (by omega)
      obtain ⟨k0, k1, k2, kx, ks⟩ := hW.cells (nl hl19)
      have r2 := (hA.far 2 (by omega)).trans h2
      unfold Oper.wp
      simp [execOp, go_sem, r2, kx]
      exact hK _ _ ⟨by simpa using hL, V, hA.put hL 8 (by omega) (341, _) rfl (by omega) (by omega) (by omega) (fun _ _ _ _ => rfl) (fun k y h1 h2 => by have := (exA_slot h2).1; show y.1 ≠ 341; omega), hW.same hL 8 (by omega) (by omega)⟩
    · injection hoo with hoo
      subst hoo
      rw [if_pos (by rfl)]
      have q341 : a.tmps.getD 341 undef = .pointer (some ⟨b, 0, none⟩) := hA.at_ 8 (341, _) (by omega) (hdep { on := 8, ground := .data } (by simp) rfl) rfl
      unfold Oper.wp
      simp [execOp, go_sem, q341]
      exact hK _ _ ⟨by simpa using hL, V, hA.put hL 9 (by omega) (342, _) rfl (by omega) (by omega) (by omega) (fun _ _ _ _ => rfl) (fun k y h1 h2 => by have := (exA_slot h2).1; show y.1 ≠ 342; omega), hW.same hL 9 (by omega) (by omega)⟩
    · injection hoo with hoo
      subst hoo
      rw [if_pos (by rfl)]
      have q342 : a.tmps.getD 342 undef = .pointer (some ⟨b, 0, none⟩) := hA.at_ 9 (342, _) (by omega) (hdep { on := 9, ground := .data } (by simp) rfl) rfl
      unfold Oper.wp
      simp [execOp, go_sem, q342]
      exact hK _ _ ⟨by simpa using hL, V, hA.put hL 10 (by omega) (343, _) rfl (by omega) (by omega) (by omega) (fun _ _ _ _ => rfl) (fun k y h1 h2 => by have := (exA_slot h2).1; show y.1 ≠ 343; omega), hW.same hL 10 (by omega) (by omega)⟩
    · injection hoo with hoo
      subst hoo
      rw [if_pos (by rfl)]
      have hl19 := hW.n19 hl (by omega)
      obtain ⟨k0, k1, k2, kx, ks⟩ := hW.cells (nl hl19)
      have q343 : a.tmps.getD 343 undef = .pointer (some ⟨b, 1, none⟩) := hA.at_ 10 (343, _) (by omega) (hdep { on := 10, ground := .data } (by simp) rfl) rfl
      unfold Oper.wp
      simp [execOp, go_sem, q343, k1]
      exact hK _ _ ⟨by simpa using hL, V, hA.put hL 11 (by omega) (344, _) rfl (by omega) (by omega) (by omega) (fun _ _ _ _ => rfl) (fun k y h1 h2 => by have := (exA_slot h2).1; show y.1 ≠ 344; omega), hW.same hL 11 (by omega) (by omega)⟩
    · injection hoo with hoo
      subst hoo
      rw [if_pos (by rfl)]
      have q339 : a.tmps.getD 339 undef = .string s := hA.at_ 6 (339, _) (by omega) (hdep { on := 6, ground := .data } (by simp) rfl) rfl
      have q340 : a.tmps.getD 340 undef = .int .i64 p := hA.at_ 7 (340, _) (by omega) (hdep { on := 7, ground := .data } (by simp) rfl) rfl
      have q344 : a.tmps.getD 344 undef = .int .i64 d := hA.at_ 11 (344, _) (by omega) (hdep { on := 11, ground := .data } (by simp) rfl) rfl
      unfold Oper.wp
      simp [execOp, go_sem, q339, q340, q344, s1, s2, s3]
      rw [← htx]
      exact hK _ _ ⟨by simpa using hL, V, hA.put hL 12 (by omega) (345, _) rfl (by omega) (by omega) (by omega) (fun _ _ _ _ => rfl) (fun k y h1 h2 => by have := (exA_slot h2).1; show y.1 ≠ 345; omega), hW.same hL 12 (by omega) (by omega)⟩
    · injection hoo with hoo
      subst hoo
      rw [if_pos (by rfl)]
      have r1 := (hA.far 1 (by omega)).trans h1
      unfold Oper.wp
      simp [execOp, go_sem, r1]
      exact hK _ _ ⟨by simpa using hL, V, hA.put hL 13 (by omega) (346, _) rfl (by omega) (by omega) (by omega) (fun _ _ _ _ => rfl) (fun k y h1 h2 => by have := (exA_slot h2).1; show y.1 ≠ 346; omega), hW.same hL 13 (by omega) (by omega)⟩
    · injection hoo with hoo
      subst hoo
      rw [if_pos (by rfl)]
      have q338 : a.tmps.getD 338 undef = .float .f64 f := hA.at_ 5 (338, _) (by omega) (hdep { on := 5, ground := .data } (by simp) rfl) rfl
      have q345 : a.tmps.getD 345 undef = .string tx := hA.at_ 12 (345, _) (by omega) (hdep { on := 12, ground := .data } (by simp) rfl) rfl
      have q346 : a.tmps.getD 346 undef = .bool z := hA.at_ 13 (346, _) (by omega) (hdep { on := 13, ground := .data } (by simp) rfl) rfl
      have y338 := q338
      rw [Array.getD_eq_getD_getElem?] at y338
      have y345 := q345
      rw [Array.getD_eq_getD_getElem?] at y345
      have y346 := q346
      rw [Array.getD_eq_getD_getElem?] at y346
      unfold Oper.wp
      simp [execOp, go_sem, y338, y345, y346]
      subst htk
      exact hK _ _ ⟨by simpa using hL, V, hA.put hL 14 (by omega) (347, _) rfl (by omega) (by omega) (by omega) (fun _ _ _ _ => rfl) (fun k y h1 h2 => by have := (exA_slot h2).1; show y.1 ≠ 347; omega), hW.same hL 14 (by omega) (by omega)⟩
    · injection hoo with hoo
      subst hoo
      rw [if_pos (by rfl)]
      have q347 : a.tmps.getD 347 undef = tk := hA.at_ 14 (347, _) (by omega) (hdep { on := 14, ground := .data } (by simp) rfl) rfl
      have y347 := q347
      rw [Array.getD_eq_getD_getElem?, htk] at y347
      have hw := hW.st0 (nl hl)
      have h16 : L.getD 16 false = false := by
        cases e : L.getD 16 false with
        | false => rfl
        | true => exact absurd (hW.a16 e).1 (by rw [hl]; simp)
      have hl19 := hW.n19 hl (by omega)
      subst hw
      unfold Oper.wp
      simp [execOp, go_sem, y347, ncells]
      exact hK _ _ ⟨by simpa using hL, V, hA.put hL 15 (by omega) (348, _) rfl (by omega) (by omega) (by omega) (fun _ _ _ _ => rfl) (fun k y h1 h2 => by have := (exA_slot h2).1; show y.1 ≠ 348; omega), hW.alloc hL h16 hl19⟩
    · injection hoo with hoo
      subst hoo
      have q337 : a.tmps.getD 337 undef = o := hA.at_ 4 (337, _) (by omega) (hdep { on := 4, ground := .data } (by simp) rfl) rfl
      have q348 : a.tmps.getD 348 undef = .slice (some ⟨w0.heap.size, 0, none⟩) 1 1 := hA.at_ 15 (348, _) (by omega) (hdep { on := 15, ground := .data } (by simp) rfl) rfl
      have h15 : L.getD 15 false = true := (hdep { on := 15, ground := .data } (by simp) rfl)
      have h4l : L.getD 4 false = true := (hdep { on := 4, ground := .data } (by simp) rfl)
      have hl19 := hW.n19 hl (by omega)
      have hw := hW.st1 h15 (nl hl)
      subst hw
      refine step_append_lies _ rfl (.tmp 337) (.tmp 348) 27 rfl B 31 i0 _ 9 56 Tryd.underlying27 hi0 hz0 hz1 hz2 rfl (by omega) o Ts.length _ q337 p1 ⟨w0.heap.size, 0, none⟩ 1 1 _ q348 rfl p2 (by simp [Value.oneCell']) (by omega) (by unfold maxLen; omega) (by omega) p3 (w0.heap.size + 1) (by simp) ?_
      intro g2 cap2 w1 hown hgrow hat _
      exact hK _ _ ⟨by simpa using hL, _, hA.put (ex' := exA b s tx p d f z o tk (.slice (some ⟨g2, 0, none⟩) (Ts.length + 1) cap2) w0.heap.size) hL 16 (by omega) (349, _) rfl (by omega) (by omega) (by omega) (fun k _ hk _ => exA_V hk) (fun k y h1 h2 => by have := (exA_slot h2).1; show y.1 ≠ 349; omega), hW.app hL h15 h4l hl19 rfl hown hgrow hat⟩
    · injection hoo with hoo
      subst hoo
      rw [if_pos (by rfl)]
      have q333 : a.tmps.getD 333 undef = .pointer (some ⟨b, 0, none⟩) := hA.at_ 0 (333, _) (by omega) (hdep { on := 0, ground := .data } (by simp) rfl) rfl
      unfold Oper.wp
      simp [execOp, go_sem, q333]
      exact hK _ _ ⟨by simpa using hL, V, hA.put hL 17 (by omega) (350, _) rfl (by omega) (by omega) (by omega) (fun _ _ _ _ => rfl) (fun k y h1 h2 => by have := (exA_slot h2).1; show y.1 ≠ 350; omega), hW.same hL 17 (by omega) (by omega)⟩
    · injection hoo with hoo
      subst hoo
      rw [if_pos (by rfl)]
      have q350 : a.tmps.getD 350 undef = .pointer (some ⟨b, 0, none⟩) := hA.at_ 17 (350, _) (by omega) (hdep { on := 17, ground := .data } (by simp) rfl) rfl
      unfold Oper.wp
      simp [execOp, go_sem, q350]
      exact hK _ _ ⟨by simpa using hL, V, hA.put hL 18 (by omega) (351, _) rfl (by omega) (by omega) (by omega) (fun _ _ _ _ => rfl) (fun k y h1 h2 => by have := (exA_slot h2).1; show y.1 ≠ 351; omega), hW.same hL 18 (by omega) (by omega)⟩
    · injection hoo with hoo
      subst hoo
      rw [if_pos (by rfl)]
      have q351 : a.tmps.getD 351 undef = .pointer (some ⟨b, 2, none⟩) := hA.at_ 18 (351, _) (by omega) (hdep { on := 18, ground := .data } (by simp) rfl) rfl
      have q349 : a.tmps.getD 349 undef = V := hA.at_ 16 (349, _) (by omega) (hdep { on := 16, ground := .data } (by simp) rfl) rfl
      have hall : ∀ k, k < 17 → L.getD k false = true := by
        intro k hk
        have hc : k = 0 ∨ k = 1 ∨ k = 2 ∨ k = 3 ∨ k = 4 ∨ k = 5 ∨ k = 6 ∨ k = 7 ∨ k = 8 ∨ k = 9 ∨ k = 10 ∨ k = 11 ∨ k = 12 ∨ k = 13 ∨ k = 14 ∨ k = 15 ∨ k = 16 := by omega
        rcases hc with rfl | rfl | rfl | rfl | rfl | rfl | rfl | rfl | rfl | rfl | rfl | rfl | rfl | rfl | rfl | rfl | rfl
        · exact hdep { on := 0, ground := .phase } (by simp) rfl
        · exact hdep { on := 1, ground := .phase } (by simp) rfl
        · exact hdep { on := 2, ground := .phase } (by simp) rfl
        · exact hdep { on := 3, ground := .phase } (by simp) rfl
        · exact hdep { on := 4, ground := .phase } (by simp) rfl
        · exact hdep { on := 5, ground := .phase } (by simp) rfl
        · exact hdep { on := 6, ground := .phase } (by simp) rfl
        · exact hdep { on := 7, ground := .phase } (by simp) rfl
        · exact hdep { on := 8, ground := .phase } (by simp) rfl
        · exact hdep { on := 9, ground := .phase } (by simp) rfl
        · exact hdep { on := 10, ground := .phase } (by simp) rfl
        · exact hdep { on := 11, ground := .phase } (by simp) rfl
        · exact hdep { on := 12, ground := .phase } (by simp) rfl
        · exact hdep { on := 13, ground := .phase } (by simp) rfl
        · exact hdep { on := 14, ground := .phase } (by simp) rfl
        · exact hdep { on := 15, ground := .phase } (by simp) rfl
        · exact hdep { on := 16, ground := .phase } (by simp) rfl
      obtain ⟨g2, cap2, w1, hVV, hown, hgrow, hat, hw, _⟩ := hW.st2 (hall 16 (by omega))
      have hw1 := hw (nl hl)
      have hlx := p4 w1 hgrow
      have k2 := hlx.cells.2.2.1
      have f2 := hlx.free 2
      have hset := hW.set hL hl hall
      subst hw1
      rw [hVV] at q349 hset
      unfold Oper.wp
      simp [execOp, go_sem, q351, q349, k2, f2]
      exact hK _ _ ⟨by simpa using hL, V, hA.none hL 19 (by omega) rfl undef, by rw [hVV]; exact hset⟩
  · intro L a w hall ⟨hL, V, hA, hW⟩
    have hall : ∀ i, i < 20 → L.getD i false = true := fun i hi => hall i (by simpa using hi)
    obtain ⟨g2, cap2, w1, hVV, hown, hgrow, hat, _, hw⟩ := hW.st2 (hall 16 (by omega))
    have hw := hw (hall 19 (by omega))
    rw [hVV] at hown hw
    obtain ⟨⟨V3, hV3, hL3⟩, hB3⟩ := p5 g2 cap2 w1 hown hgrow hat
    subst hw
    exact hfin a _ ⟨2, tx, f, z, false, false, false, 0, 0⟩ rfl rfl ⟨_, _, _, _, _, hL3⟩ ((bel_drewN B w0 1).trans hB3) hA.d
set_option maxRecDepth 100000

def sg352_13 (u : Nat → Value) (r : List Value) : List Value := u 13 :: u 14 :: u 15 :: u 16 :: u 17 :: u 18 :: u 19 :: u 20 :: u 21 :: u 22 :: u 23 :: u 24 :: u 25 :: u 26 :: u 27 :: u 28 :: u 29 :: u 30 :: u 31 :: u 32 :: u 33 :: u 34 :: u 35 :: u 36 :: u 37 :: u 38 :: u 39 :: u 40 :: u 41 :: u 42 :: u 43 :: u 44 :: u 45 :: u 46 :: u 47 :: u 48 :: u 49 :: u 50 :: u 51 :: u 52 :: u 53 :: u 54 :: u 55 :: u 56 :: u 57 :: u 58 :: u 59 :: u 60 :: u 61 :: u 62 :: u 63 :: u 64 :: u 65 :: u 66 :: u 67 :: u 68 :: u 69 :: u 70 :: u 71 :: u 72 :: u 73 :: u 74 :: u 75 :: u 76 :: u 77 :: u 78 :: u 79 :: u 80 :: u 81 :: u 82 :: u 83 :: u 84 :: u 85 :: u 86 :: u 87 :: u 88 :: u 89 :: u 90 :: u 91 :: u 92 :: u 93 :: u 94 :: u 95 :: u 96 :: u 97 :: u 98 :: u 99 :: u 100 :: u 101 :: u 102 :: u 103 :: u 104 :: u 105 :: u 106 :: u 107 :: u 108 :: u 109 :: u 110 :: u 111 :: u 112 :: u 113 :: u 114 :: u 115 :: u 116 :: u 117 :: u 118 :: u 119 :: u 120 :: u 121 :: u 122 :: u 123 :: u 124 :: u 125 :: u 126 :: u 127 :: u 128 :: u 129 :: u 130 :: u 131 :: u 132 :: u 133 :: u 134 :: u 135 :: u 136 :: u 137 :: u 138 :: u 139 :: u 140 :: u 141 :: u 142 :: u 143 :: u 144 :: u 145 :: u 146 :: u 147 :: u 148 :: u 149 :: u 150 :: u 151 :: u 152 :: u 153 :: u 154 :: u 155 :: u 156 :: u 157 :: u 158 :: u 159 :: u 160 :: u 161 :: u 162 :: u 163 :: u 164 :: u 165 :: u 166 :: u 167 :: u 168 :: u 169 :: u 170 :: u 171 :: u 172 :: u 173 :: u 174 :: u 175 :: u 176 :: u 177 :: u 178 :: u 179 :: u 180 :: u 181 :: u 182 :: u 183 :: u 184 :: u 185 :: u 186 :: u 187 :: u 188 :: u 189 :: u 190 :: u 191 :: u 192 :: u 193 :: u 194 :: u 195 :: u 196 :: u 197 :: u 198 :: u 199 :: u 200 :: u 201 :: u 202 :: u 203 :: u 204 :: u 205 :: u 206 :: u 207 :: u 208 :: u 209 :: u 210 :: u 211 :: u 212 :: u 213 :: u 214 :: u 215 :: u 216 :: u 217 :: u 218 :: u 219 :: u 220 :: u 221 :: u 222 :: u 223 :: u 224 :: u 225 :: u 226 :: u 227 :: u 228 :: u 229 :: u 230 :: u 231 :: u 232 :: u 233 :: u 234 :: u 235 :: u 236 :: u 237 :: u 238 :: u 239 :: u 240 :: u 241 :: u 242 :: u 243 :: u 244 :: u 245 :: u 246 :: u 247 :: u 248 :: u 249 :: u 250 :: u 251 :: u 252 :: u 253 :: u 254 :: u 255 :: u 256 :: u 257 :: u 258 :: u 259 :: u 260 :: u 261 :: u 262 :: u 263 :: u 264 :: u 265 :: u 266 :: u 267 :: u 268 :: u 269 :: u 270 :: u 271 :: u 272 :: u 273 :: u 274 :: u 275 :: u 276 :: u 277 :: u 278 :: u 279 :: u 280 :: u 281 :: u 282 :: u 283 :: u 284 :: u 285 :: u 286 :: u 287 :: u 288 :: u 289 :: u 290 :: u 291 :: u 292 :: u 293 :: u 294 :: u 295 :: u 296 :: u 297 :: u 298 :: u 299 :: u 300 :: u 301 :: u 302 :: u 303 :: u 304 :: u 305 :: u 306 :: u 307 :: u 308 :: u 309 :: u 310 :: u 311 :: u 312 :: u 313 :: u 314 :: u 315 :: u 316 :: u 317 :: u 318 :: u 319 :: u 320 :: u 321 :: u 322 :: u 323 :: u 324 :: u 325 :: u 326 :: u 327 :: u 328 :: r
def sg352_330 (u : Nat → Value) : List Value := u 330 :: u 331 :: u 332 :: u 333 :: u 334 :: u 335 :: u 336 :: u 337 :: u 338 :: u 339 :: u 340 :: u 341 :: u 342 :: u 343 :: u 344 :: u 345 :: u 346 :: u 347 :: u 348 :: u 349 :: u 350 :: u 351 :: []
def F19z (b : Nat) (z : Bool) (bx bs : Nat) (p : Nat) (f : Nat) : (Nat → Value) → Act := FG 352 [(0, .pointer (some ⟨b, 0, none⟩)), (1, .bool z), (2, .pointer (some ⟨bx, 0, none⟩)), (4, .pointer (some ⟨bs, 0, none⟩)), (5, .int .i64 p), (7, .float .f64 f)]
theorem F19z_lit (b : Nat) (z : Bool) (bx bs : Nat) (p : Nat) (f : Nat) (u : Nat → Value) : F19z b  z  bx bs  p  f u = { tmps := List.toArray (.pointer (some ⟨b, 0, none⟩) :: .bool z :: .pointer (some ⟨bx, 0, none⟩) :: u 3 :: .pointer (some ⟨bs, 0, none⟩) :: .int .i64 p :: u 6 :: .float .f64 f :: u 8 :: u 9 :: u 10 :: u 11 :: u 12 :: sg352_13 u (u 329 :: sg352_330 u)), defers := [] } := by kernel_rfl
theorem F19z_at (b : Nat) (z : Bool) (bx bs : Nat) (p : Nat) (f : Nat) {L : List Value} (hl : L.length = 352) (hn : NmOk L [(0, .pointer (some ⟨b, 0, none⟩)), (1, .bool z), (2, .pointer (some ⟨bx, 0, none⟩)), (4, .pointer (some ⟨bs, 0, none⟩)), (5, .int .i64 p), (7, .float .f64 f)]) : (F19z b  z  bx bs  p  f fun k => (Act.mk L.toArray []).tmps.getD k undef) = { tmps := L.toArray, defers := [] } := FG_at hl hn
def F19y (b : Nat) (z : Bool) (bx bs : Nat) (p : Nat) (f : Nat) (y : Bool) : (Nat → Value) → Act := FG 352 [(0, .pointer (some ⟨b, 0, none⟩)), (1, .bool z), (2, .pointer (some ⟨bx, 0, none⟩)), (4, .pointer (some ⟨bs, 0, none⟩)), (5, .int .i64 p), (7, .float .f64 f), (329, .bool y)]
theorem F19y_lit (b : Nat) (z : Bool) (bx bs : Nat) (p : Nat) (f : Nat) (y : Bool) (u : Nat → Value) : F19y b  z  bx bs  p  f  y u = { tmps := List.toArray (.pointer (some ⟨b, 0, none⟩) :: .bool z :: .pointer (some ⟨bx, 0, none⟩) :: u 3 :: .pointer (some ⟨bs, 0, none⟩) :: .int .i64 p :: u 6 :: .float .f64 f :: u 8 :: u 9 :: u 10 :: u 11 :: u 12 :: sg352_13 u (.bool y :: sg352_330 u)), defers := [] } := by kernel_rfl
theorem F19y_at (b : Nat) (z : Bool) (bx bs : Nat) (p : Nat) (f : Nat) (y : Bool) {L : List Value} (hl : L.length = 352) (hn : NmOk L [(0, .pointer (some ⟨b, 0, none⟩)), (1, .bool z), (2, .pointer (some ⟨bx, 0, none⟩)), (4, .pointer (some ⟨bs, 0, none⟩)), (5, .int .i64 p), (7, .float .f64 f), (329, .bool y)]) : (F19y b  z  bx bs  p  f  y fun k => (Act.mk L.toArray []).tmps.getD k undef) = { tmps := L.toArray, defers := [] } := FG_at hl hn

theorem badP_of {c : Nat} (h1 : lt c = false) (h2 : dg c = false) (h3 : ¬ 128 ≤ c) (h4 : c ≠ 92) : badP c = false := by
  unfold lt at h1; unfold dg at h2
  unfold badP
  simp at h1 h2 ⊢
  omega
/-- what number leaves, told of its end -/
structure NE (B b : Nat) (s : ByteArray) (w0 w : World) (d : Nat) (op : Bool) (Ts : List Tok) (D : List Int) (O : List (Bool × Int)) (bx bs : Nat) : Prop where
  l : ∃ o dd q la co, LV B b s w d op Ts D O o dd q la co ∧ o.ownBlock ≠ some bx ∧ o.ownBlock ≠ some bs
  x : w.cell? ⟨bx, 0, none⟩ = some (.pointer (some ⟨b, 0, none⟩))
  t : w.cell? ⟨bs, 0, none⟩ = some (.string s)
  be : Below B w0 w
  nx : bx ≠ b
  ns : bs ≠ b
theorem NE.drewN {B b : Nat} {s : ByteArray} {w0 w : World} {d : Nat} {op : Bool} {Ts : List Tok} {D : List Int} {O : List (Bool × Int)} {bx bs : Nat} (h : NE B b s w0 w d op Ts D O bx bs) (n : Nat) : NE B b s w0 (w.drewN n) d op Ts D O bx bs := by
  obtain ⟨o, dd, q, la, co, hL, h1, h2⟩ := h.l
  exact ⟨⟨o, dd, q, la, co, hL.kept (gb_drewN (World.grownBy.refl _ _) n), h1, h2⟩, h.x, h.t, h.be.trans (bel_drewN B w n), h.nx, h.ns⟩
set_option maxHeartbeats 4000000 in
theorem n19_z (B b bx bs : Nat) (z op : Bool) (s : ByteArray) (p d f : Nat) (Ts : List Tok) (D : List Int) (O : List (Bool × Int)) (w0 w : World) (Post : Ending → World → Prop) (a : Act)
    (ha : (F19z b z bx bs p f fun k => a.tmps.getD k undef) = a) (hpd : p ≤ d) (hd : d ≤ s.size) (hTs : Ts.length ≤ 200) (hN : NE B b s w0 w d op Ts D O bx bs)
    (hbad : d < s.size → badP (bt s d) = true → ∀ w', LS B b s w' d true Ts D O → Below B w0 w' → Post (.returned (.tuple #[])) w')
    (hgood : (d < s.size → badP (bt s d) = false) → ∀ w' (t : Tok), t.k = 2 → t.f = f → LS B b s w' d op (Ts ++ [t]) D O → Below B w0 w' → Post (.returned (.tuple #[])) w') :
    Code.wp Tryd.prog (c19 [true, true, true, true, true]) (bodyPost Tryd.prog Tryd.f19 Post) a w := by
  rw [← ha]
  clear ha
  generalize (fun k => a.tmps.getD k undef) = u
  conv => arg 2; whnf
  rw [F19z_lit, sg352_13, sg352_330]
  have HBAD := Lib.hid hbad
  have HGOOD := Lib.hid hgood
  have HN := Lib.hid hN
  clear hbad hgood hN
  obtain ⟨o, dd, q, la, co, hL, hox, hos⟩ := HN.out.l
  obtain ⟨c0, c1, c2, c3, c4, c5, c6, _, _⟩ := hL.x.cells
  have x2 := HN.out.x
  have x4 := HN.out.t
  have f4 := hL.x.free 4
  have HL := Lib.hid hL
  clear hL
  refine wp_seq_h ?_
  intro K34 HK34
  refine wp_seq_h ?_
  intro K2 HK2
  have hrest : Hid (∀ y : Bool, (y = true → d < s.size ∧ badP (bt s d) = true) → (y = false → d < s.size → badP (bt s d) = false) → ∀ (m : Nat) (a' : Act), (F19y b z bx bs p f y fun k => a'.tmps.getD k undef) = a' → K2 a' (w.drewN m)) := by
    refine Lib.hid fun y hy1 hy2 m a' he => ?_
    rw [← he]
    clear he
    generalize (fun k => a'.tmps.getD k undef) = u
    apply HK2.out
    clear HK2 K2
    rw [F19y_lit, sg352_13, sg352_330]
    cases y
    · have HY2 := Lib.hid (hy2 rfl)
      clear hy1 hy2
      go_wp2
      apply HK34.out
      clear HK34 K34
      refine wp_code (c := c19 [true, true, true, true, true, true]) (by kernel_rfl) ?_
      refine region34_any B b bx bs z op s p d f Ts D O o dd q la co _ _ _ rfl rfl rfl rfl rfl rfl rfl (HL.out.kept (gb_drewN (World.grownBy.refl _ _) m)) x2 x4 hox hos hpd hd hTs ?_
      intro a' w' t h1 h2 h3 h4 h5
      exact bodyPost_end (by simp [results, Tryd.results19]) h5 (HGOOD.out HY2.out w' t h1 h2 h3 ((HN.out.be.trans (bel_drewN B w m)).trans h4))
    · have hy := hy1 rfl
      have HY := Lib.hid hy
      clear hy1 hy2 hy
      go_wp2
      go_end0
      exact HBAD.out HY.out.1 HY.out.2 _ ⟨_, _, _, _, _, HL.out.next (gb_set (gb_drewN (World.grownBy.refl _ _) m) 4 (.bool true)) (LX.set4 HL.out.x true)⟩ (HN.out.be.trans (gb_below (gb_set (gb_drewN (World.grownBy.refl _ _) m) 4 (.bool true)) HL.out.bb HL.out.bw))
  clear HK2 HK34
  have HR := hrest
  clear hrest
  by_cases hlt : d < s.size
  · obtain ⟨c, hc⟩ : ∃ c : Nat, s[d].toNat = c := ⟨_, rfl⟩
    have hcb : bt s d = c := by rw [bt_eq hlt, hc]
    have hc256 : c < 256 := by rw [← hcb]; exact bt_lt s d
    have g1 : decide ((d : Int) < s.size) = true := decide_eq_true (by omega)
    have g2 : (d : Int) < s.size := by omega
    have hA := isLetter_any (c : Int)
    have hB := isDigit_any (c : Int)
    obtain ⟨x1, hx1⟩ : ∃ x, lt (c : Int) = x := ⟨_, rfl⟩
    obtain ⟨x2', hx2⟩ : ∃ x, dg (c : Int) = x := ⟨_, rfl⟩
    rw [hx1] at hA
    rw [hx2] at hB
    have HA := Lib.hid hA
    have HB := Lib.hid hB
    have HX1 := Lib.hid hx1
    have HX2 := Lib.hid hx2
    have HCB := Lib.hid hcb
    clear hA hB hx1 hx2 hcb
    cases x1
    · cases x2'
      · by_cases h128 : 128 ≤ c
        · have g3 : decide ((c : Int) ≥ 128) = true := decide_eq_true (by omega)
          have HBD : Hid (badP c = true) := Lib.hid (by unfold badP; exact decide_eq_true (by omega))
          clear h128
          go_quiet ((first | (go_at_call 17; exact (HA.out _).mono fun _ _ h => ⟨h.1, _, h.2⟩) | (go_at_call 8; exact (HB.out _).mono fun _ _ h => ⟨h.1, _, h.2⟩)))
          exact HR.out true (fun _ => ⟨hlt, by rw [HCB.out]; exact HBD.out⟩) (fun h => absurd h (by simp)) _ _ (F19y_at _ _ _ _ _ _ _ rfl ⟨rfl, rfl, rfl, rfl, rfl, rfl, rfl, trivial⟩)
        · have g3 : decide ((c : Int) ≥ 128) = false := decide_eq_false (by omega)
          by_cases h92 : c = 92
          · have g4 : ((c : Int) == 92) = true := by simp; omega
            have HBD : Hid (badP c = true) := Lib.hid (by unfold badP; exact decide_eq_true (by omega))
            clear h92 h128
            go_quiet ((first | (go_at_call 17; exact (HA.out _).mono fun _ _ h => ⟨h.1, _, h.2⟩) | (go_at_call 8; exact (HB.out _).mono fun _ _ h => ⟨h.1, _, h.2⟩)))
            exact HR.out true (fun _ => ⟨hlt, by rw [HCB.out]; exact HBD.out⟩) (fun h => absurd h (by simp)) _ _ (F19y_at _ _ _ _ _ _ _ rfl ⟨rfl, rfl, rfl, rfl, rfl, rfl, rfl, trivial⟩)
          · have g4 : ((c : Int) == 92) = false := by simp; omega
            have HBD : Hid (badP c = false) := Lib.hid (badP_of HX1.out HX2.out h128 h92)
            clear h92 h128
            go_quiet ((first | (go_at_call 17; exact (HA.out _).mono fun _ _ h => ⟨h.1, _, h.2⟩) | (go_at_call 8; exact (HB.out _).mono fun _ _ h => ⟨h.1, _, h.2⟩)))
            exact HR.out false (fun h => absurd h (by simp)) (fun _ _ => by rw [HCB.out]; exact HBD.out) _ _ (F19y_at _ _ _ _ _ _ _ rfl ⟨rfl, rfl, rfl, rfl, rfl, rfl, rfl, trivial⟩)
      · have HBD : Hid (badP c = true) := Lib.hid (by have := HX2.out; unfold dg at this; have := of_decide_eq_true this; unfold badP; exact decide_eq_true (by omega))
        go_quiet ((first | (go_at_call 17; exact (HA.out _).mono fun _ _ h => ⟨h.1, _, h.2⟩) | (go_at_call 8; exact (HB.out _).mono fun _ _ h => ⟨h.1, _, h.2⟩)))
        exact HR.out true (fun _ => ⟨hlt, by rw [HCB.out]; exact HBD.out⟩) (fun h => absurd h (by simp)) _ _ (F19y_at _ _ _ _ _ _ _ rfl ⟨rfl, rfl, rfl, rfl, rfl, rfl, rfl, trivial⟩)
    · have HBD : Hid (badP c = true) := Lib.hid (by have := HX1.out; unfold lt at this; have := of_decide_eq_true this; unfold badP; exact decide_eq_true (by omega))
      go_quiet ((first | (go_at_call 17; exact (HA.out _).mono fun _ _ h => ⟨h.1, _, h.2⟩) | (go_at_call 8; exact (HB.out _).mono fun _ _ h => ⟨h.1, _, h.2⟩)))
      exact HR.out true (fun _ => ⟨hlt, by rw [HCB.out]; exact HBD.out⟩) (fun h => absurd h (by simp)) _ _ (F19y_at _ _ _ _ _ _ _ rfl ⟨rfl, rfl, rfl, rfl, rfl, rfl, rfl, trivial⟩)
  · have g1 : decide ((d : Int) < s.size) = false := decide_eq_false (by omega)
    go_quiet (fail)
    exact HR.out false (by simp) (fun _ h => absurd h (by omega)) _ _ (F19y_at _ _ _ _ _ _ _ rfl ⟨rfl, rfl, rfl, rfl, rfl, rfl, rfl, trivial⟩)
end Go.Proofs.YtblphppdfiipfaaDoor
