/- A loop rule with one family of unknown slots, and small words for worlds. Conditions: none. -/
import Derived.Test.YtblphppdfiipfaaDoorProg
import Derived.WalkKit
import Derived.WalkSpells
import Derived.WalkLawsBesides
import Derived.Deep.QuietTactic
import Derived.BigQuiet
import Derived.Outline
import Derived.Lib.Hide
import Derived.Lib.BufferOwn
import Derived.Deep.LoopGhost
namespace Go.Proofs.YtblphppdfiipfaaDoor
open Go.RowKit

/-- A loop: the frame at its head is 'f x u': 'x' what is told of it, 'u' whatever stands in the other slots. -/
theorem wp_loop_x {P : Program} {Q : Exit → Act → World → Prop} {a : Act} {w : World} {c : Code} {α : Type} (f : α → (Nat → Value) → Act) (R : Nat → α → World → Prop) (n0 : Nat) (x0 : α)
    (h0 : R n0 x0 w) (ha : (f x0 fun k => a.tmps.getD k undef) = a)
    (round : ∀ n x u w, R n x w → ∀ K : Act → World → Prop, (∀ m x' a' w', m < n → R m x' w' → (f x' fun k => a'.tmps.getD k undef) = a' → K a' w') → c.wp P (Exit.then K Q) (f x u) w) :
    (Code.loop c).wp P Q a w := by
  refine wp_loop_ghost (fun n a w => ∃ x u, R n x w ∧ f x u = a) n0 ⟨x0, _, h0, ha⟩ ?_
  intro n a w hI
  obtain ⟨x, u, hR, rfl⟩ := hI
  exact round n x u w hR _ fun m x' a' w' hm hR' he => ⟨m, hm, x', _, hR', he⟩

/-- A piece of code walked to a middle: behind it the frame is 'f x u'. -/
theorem wp_cut_x {P : Program} {Q : Exit → Act → World → Prop} {a : Act} {w : World} {c : Code} {α : Type} (f : α → (Nat → Value) → Act) (R : α → World → Prop)
    (first : ∀ K : Act → World → Prop, (∀ x a' w', R x w' → (f x fun k => a'.tmps.getD k undef) = a' → K a' w') → c.wp P (Exit.then K (fun _ _ _ => False)) a w)
    (rest : ∀ x u w', R x w' → Q .normal (f x u) w') : c.wp P Q a w := by
  refine Code.wp_mono (fun e a' w' h => ?_) (first (fun a' w' => ∃ x u, R x w' ∧ f x u = a') fun x a' w' hR he => ⟨x, _, hR, he⟩)
  cases e with
  | normal => obtain ⟨x, u, hR, rfl⟩ := h; exact rest x u w' hR
  | _ => exact absurd h (by simp [Exit.then])

/-- A frame of 'n' slots: those in 'nm' hold what is told, the others what 'u' says. -/
def FG (n : Nat) (nm : List (Nat × Value)) (u : Nat → Value) : Act := { tmps := ((List.range n).map fun k => (nm.lookup k).getD (u k)).toArray, defers := [] }
def NmOk (L : List Value) : List (Nat × Value) → Prop
  | [] => True
  | (k, v) :: r => L.getD k undef = v ∧ NmOk L r
theorem NmOk.lookup {L : List Value} : ∀ {nm : List (Nat × Value)}, NmOk L nm → ∀ k, (nm.lookup k).getD (L.getD k undef) = L.getD k undef
  | [], _, k => rfl
  | (j, v) :: r, h, k => by
    rw [List.lookup_cons]
    by_cases e : k = j
    · subst e; simp only [beq_self_eq_true]; exact h.1.symm
    · rw [beq_eq_false_iff_ne.2 e]; exact NmOk.lookup h.2 k
theorem FG_at {n : Nat} {nm : List (Nat × Value)} {L : List Value} (hl : L.length = n) (hn : NmOk L nm) :
    (FG n nm fun k => (Act.mk L.toArray []).tmps.getD k undef) = { tmps := L.toArray, defers := [] } := by
  unfold FG
  congr 1
  congr 1
  refine List.ext_getElem (by simpa using hl.symm) fun i h1 h2 => ?_
  have e : (Act.mk L.toArray []).tmps.getD i undef = L.getD i undef := by simp [Array.getD_eq_getD_getElem?, List.getD_eq_getElem?_getD]
  simp only [List.getElem_map, List.getElem_range, e, hn.lookup]
  simp [List.getD_eq_getElem?_getD, h2]

/-- Some orders have been drawn, nothing else. -/
def Dr (w w' : World) : Prop := ∃ n, w' = w.drewN n
theorem Dr.refl (w : World) : Dr w w := ⟨0, rfl⟩

theorem gb_drewN {w wr : World} {r : Option Nat} (h : w.grownBy wr r) (n : Nat) : w.grownBy (wr.drewN n) r := ⟨h.os, h.tape, h.output, h.size, h.block⟩
theorem gb_set {w wr : World} {b : Nat} (h : w.grownBy wr (some b)) (i : Nat) (v : Value) : w.grownBy (wr.setCell ⟨b, i, none⟩ v) (some b) := Lib.grownBy_setB h i v
theorem gb_below {w wr : World} {B : Nat} {b : Nat} (h : w.grownBy wr (some b)) (hB : B ≤ b) (hs : B ≤ w.heap.size) : Below B w wr :=
  (Below.refl B w).grown h hs fun k hk => by cases hk; exact hB
theorem wp_seq_h {P : Program} {Q : Exit → Act → World → Prop} {a : Act} {w : World} {x y : Code} (h : ∀ K : Act → World → Prop, Hid (∀ a w, y.wp P Q a w → K a w) → x.wp P (Exit.then K Q) a w) : (Code.seq x y).wp P Q a w := wp_seq_k fun K hK => h K (Lib.hid hK)
end Go.Proofs.YtblphppdfiipfaaDoor
