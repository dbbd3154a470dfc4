/- A region whose order is open, by an invariant. Conditions: none. -/
import Derived.Test.YtblphppdfiipfaaDoorCPunct
import Derived.Orders
namespace Go.Proofs.YtblphppdfiipfaaDoor
open Go.RowKit
set_option maxRecDepth 100000

theorem cf_set {L : List Bool} {i : Nat} (h : L[i]? = some false) : (L.set i true).count false + 1 = L.count false := by
  induction L generalizing i with
  | nil => simp at h
  | cons x r ih =>
    cases i with
    | zero =>
      simp only [List.getElem?_cons_zero, Option.some.injEq] at h
      subst h
      simp
    | succ i =>
      simp only [List.getElem?_cons_succ] at h
      have := ih h
      simp only [List.set_cons_succ, List.count_cons]
      omega
theorem cf_zero {L : List Bool} (h : L.count false = 0) (i : Nat) : L[i]? ≠ some false := by
  intro e
  have := List.mem_of_getElem? e
  have := List.count_pos_iff.2 this
  omega
/-- A region whose order is open: whatever order, the invariant holds behind each operation. -/
theorem wp_region_inv {P : Program} {id : Nat} {ops : Array Oper} {Q : Exit → Act → World → Prop} {a : Act} {w : World} (hm : P.follows .mixedOrders = true) (Inv : Array Bool → Act → World → Prop)
    (h0 : Inv (Array.replicate ops.size false) a { w with drawn := w.drawn + 1 })
    (hlow : ∀ (i : Nat) (o : Oper), ops[i]? = some o → ∀ e ∈ o.after, Region.binds .any e = true → e.on < i)
    (hs : ∀ (L : Array Bool) (a : Act) (w : World) (i : Nat) (o : Oper), L.size = ops.size → ops[i]? = some o → L.getD i false = false → (∀ e ∈ o.after, Region.binds .any e = true → L.getD e.on false = true) → Inv L a w →
      ∀ K : Act → World → Prop, (∀ a' w', Inv (L.setIfInBounds i true) a' w' → K a' w') → if Region.wanted o (yielded ops a.tmps) = true then o.wp P a w K Q else K (a.put o.dst undef) w)
    (he : ∀ (L : Array Bool) (a : Act) (w : World), (∀ i, i < ops.size → L.getD i false = true) → Inv L a w → Q .normal a w) : (Code.region id ops true).wp P Q a w := by
  refine wp_region_any hm ?_
  have key : ∀ (fuel : Nat) (L : Array Bool) (a : Act) (w : World), L.size = ops.size → Inv L a w → L.toList.count false ≤ fuel → wpAny P .any ops Q fuel L a w := by
    have fin : ∀ (L : Array Bool) (a : Act) (w : World), L.size = ops.size → Inv L a w → Region.ready .any ops L = [] → Q .normal a w := by
      intro L a w hL hI hr
      refine he L a w (fun i => ?_) hI
      induction i using Nat.strongRecOn with
      | ind i ih =>
        intro hi
        cases hv : L.getD i false with
        | true => rfl
        | false =>
          exfalso
          have hm : i ∈ Region.ready .any ops L := by
            rw [mem_ready]
            refine ⟨?_, ops[i], Array.getElem?_eq_getElem hi, fun e h1 hb => ?_⟩
            · have hi2 : i < L.size := by omega
              rw [Array.getD_eq_getD_getElem?, Array.getElem?_eq_getElem hi2] at hv ⊢
              exact hv
            · have hlt := hlow i _ (Array.getElem?_eq_getElem hi) e h1 hb
              exact ih e.on hlt (by omega)
          rw [hr] at hm
          exact absurd hm (by simp)
    intro fuel
    induction fuel with
    | zero =>
      intro L a w hL hI hc
      have hr : Region.ready .any ops L = [] := by
        refine List.eq_nil_iff_forall_not_mem.2 fun i hi => ?_
        rw [mem_ready] at hi
        obtain ⟨h1, o, ho, _⟩ := hi
        have hi2 : i < L.size := by
          rw [hL]
          exact (Array.getElem?_eq_some_iff.1 ho).1
        rw [Array.getD_eq_getD_getElem?, Array.getElem?_eq_getElem hi2] at h1
        refine cf_zero (L := L.toList) (by omega) i ?_
        rw [Array.getElem?_toList, Array.getElem?_eq_getElem hi2]
        exact congrArg some h1
      exact ⟨hr, fin L a w hL hI hr⟩
    | succ fuel ih =>
      intro L a w hL hI hc
      refine ⟨fin L a w hL hI, fun i hi => ?_⟩
      rw [mem_ready] at hi
      obtain ⟨h1, o, ho, hd⟩ := hi
      have hi2 : i < L.size := by
        rw [hL]
        exact (Array.getElem?_eq_some_iff.1 ho).1
      rw [Array.getD_eq_getD_getElem?, Array.getElem?_eq_getElem hi2] at h1
      have h1' : L[i] = false := h1
      refine wpOp_step ho (fun K' hK' => hs L a w i o hL ho (by rw [Array.getD_eq_getD_getElem?, Array.getElem?_eq_getElem hi2]; exact h1') hd hI K' fun a' w' hI' => hK' a' w' (ih _ _ _ (by simpa using hL) hI' ?_))
      have := cf_set (L := L.toList) (i := i) (by rw [Array.getElem?_toList, Array.getElem?_eq_getElem hi2, h1'])
      rw [Array.toList_setIfInBounds]
      omega
  refine key _ _ _ _ (by simp) h0 ?_
  simp

/-- what stands at a key -/
def vk (k : Int) : Int := if k = 120 then 16 else if k = 111 then 8 else 2
/-- entries, in the order in which they came -/
def ent : List Int → Nat → List MapEntry
  | [], _ => []
  | k :: r, i => { key := .int .u8 k, val := .int .i64 (vk k), born := i } :: ent r (i + 1)
theorem ent_push (k : Int) : ∀ (ks : List Int) (i : Nat), ent ks i ++ [{ key := .int .u8 k, val := .int .i64 (vk k), born := i + ks.length }] = ent (ks ++ [k]) i
  | [], i => rfl
  | x :: r, i => by
    have := ent_push k r (i + 1)
    simp only [ent, List.cons_append, List.length_cons]
    rw [← this, show i + 1 + r.length = i + (r.length + 1) by omega]
theorem find_none (k : Int) : ∀ (ks : List Int) (b i : Nat), k ∉ ks → Instr.findNow (.int .u8) (.int .u8 k) (ent ks b) i = some none
  | [], _, _, _ => rfl
  | x :: r, b, i, h => by
    have hx : k ≠ x := fun e => h (by simp [e])
    have ih := find_none k r (b + 1) (i + 1) fun e => h (by simp [e])
    have hb : (k == x) = false := by simpa using hx
    simp [ent, Instr.findNow, Instr.sameNow, ih, hb]
theorem find_some (k : Int) : ∀ (ks : List Int) (b i : Nat), k ∈ ks → ∃ j, Instr.findNow (.int .u8) (.int .u8 k) (ent ks b) i = some (some (j, .int .i64 (vk k)))
  | [], _, _, h => absurd h (by simp)
  | x :: r, b, i, h => by
    by_cases hx : k = x
    · subst hx
      exact ⟨i, by simp [ent, Instr.findNow, Instr.sameNow]⟩
    · obtain ⟨j, ih⟩ := find_some k r (b + 1) (i + 1) (by simpa [hx] using h)
      have hb : (k == x) = false := by simpa using hx
      exact ⟨j, by simp [ent, Instr.findNow, Instr.sameNow, ih, hb]⟩
/-- block r is the map with these keys -/
def Mp (w : World) (r : Nat) (ks : List Int) : Prop := w.heap[r]? = some (.map (ent ks 0).toArray ks.length)
theorem run_insK {w : World} {r : Nat} {ks : List Int} {k : Int} (h : Mp w r ks) (hk : k ∉ ks) :
    ∃ w', (Instr.mapUpdate 60 (.map (some r)) (.int .u8 k) (.int .i64 (vk k))).run Tryd.prog w = .ok () w' ∧ Mp w' r (ks ++ [k]) ∧ w.grownBy w' (some r) := by
  have hlt := lt_of_block h
  refine ⟨_, run_ins8 w 60 5 3 r ks.length _ _ _ Tryd.underlying60 Tryd.underlying5 h rfl (find_none k ks 0 0 hk), ?_, ⟨rfl, rfl, rfl, by simp, fun j _ hj => ?_⟩⟩
  · unfold Mp
    have e := ent_push k ks 0
    rw [Nat.zero_add] at e
    rw [← e]
    simp [hlt]
  · show (w.heap.setIfInBounds r _)[j]? = _
    rw [Array.getElem?_setIfInBounds_ne (by intro e; exact hj (by rw [e]))]
theorem run_lookK {w : World} {r : Nat} {ks : List Int} {k : Int} (h : Mp w r ks) (hk : k ∈ ks) :
    (Instr.lookup 60 (.map (some r)) (.int .u8 k) false).run Tryd.prog w = .ok (.int .i64 (vk k)) w := by
  obtain ⟨j, hf⟩ := find_some k ks 0 0 hk
  have hc : (Instr.checkKey (ent ks 0).isEmpty 10000 5 (.int .u8 k)).run Tryd.prog w = .ok () w := MapKept.run_checkKey (k := .int .u8 k) Tryd.underlying5 rfl _ 9999
  simp only [Instr.lookup]
  simp [run_underlying Tryd.underlying60, MapKept.run_getObj_map h, hc, MapKept.run_findKey Tryd.underlying5 hf, Result.andThen]
end Go.Proofs.YtblphppdfiipfaaDoor
