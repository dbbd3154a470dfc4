/- Bytes gathered in a row of the own call. Conditions: none. -/
import Derived.Test.YtblphppdfiipfaaDoorCBracket
import Derived.Laws.IdiomStrings
namespace Go.Proofs.YtblphppdfiipfaaDoor
open Go.RowKit
set_option maxRecDepth 100000

theorem info5 : (Tryd.prog.info? 5).map (fun i => (i.zero, i.size, i.bytes)) = some (some (.int .u8 0), 1, 1) := by kernel_rfl
def bcs (l : List UInt8) : List Value := l.map fun c => .int .u8 c.toNat
/-- a row of bytes of one's own -/
def OB (B : Nat) (w : World) (v : Value) (l : List UInt8) : Prop := w.ownsRow B 5 1 v l.length (bcs l)
theorem OB.nil (B : Nat) (w : World) : OB B w (.slice none 0 0) [] := World.ownsRow_nil w B 5 1
theorem OB.ge {B : Nat} {w : World} {v : Value} {l : List UInt8} (h : OB B w v l) {k : Nat} (hk : v.ownBlock = some k) : B ≤ k := (h.lt k hk).1
theorem OB.kept {B b : Nat} {w w' : World} {v : Value} {l : List UInt8} (h : OB B w v l) (hb : b < B) (hg : w.grownBy w' (some b)) : OB B w' v l :=
  World.ownsRow.kept h hg (.inr fun e => by have := h.ge e; omega)
theorem OB.conv {B : Nat} {w : World} {v : Value} {l : List UInt8} (h : OB B w v l) : (convert 33 9 v).run Tryd.prog w = .ok (.string ⟨l.toArray⟩) w := by
  rcases h.2 with ⟨rfl, h0⟩ | ⟨g, cap, cur, rfl, _⟩
  · have : l = [] := List.eq_nil_of_length_eq_zero h0
    subst this
    exact run_convert_bytes_nil w 33 5 Tryd.underlying33 Tryd.underlying5 0 0 9 Tryd.underlying9
  · refine run_convert_bytes_back w 33 9 5 ⟨g, 0, none⟩ cap l Tryd.underlying33 Tryd.underlying5 Tryd.underlying9 fun j hj => ?_
    refine World.ownsRow.cells h (g := g) rfl j _ ?_
    simp [bcs, List.getElem?_eq_getElem hj]

/-- the state of such a function -/
structure OX (w0 : World) (b : Nat) (s : ByteArray) (i : Nat) (o d : Value) (op : Bool) (q : Value) (la co : Bool) (v : Value) (l : List UInt8) (w : World) : Prop where
  hb : b < w0.heap.size
  g : w0.grownBy w (some b)
  x : LX w b s i o d op q la co
  ob : OB w0.heap.size w v l
theorem OX.step {w0 : World} {b : Nat} {s : ByteArray} {i i' : Nat} {o d o' d' : Value} {op op' : Bool} {q q' : Value} {la co la' co' : Bool} {v : Value} {l : List UInt8} {w w' : World}
    (h : OX w0 b s i o d op q la co v l w) (hg : w.grownBy w' (some b)) (hx : LX w' b s i' o' d' op' q' la' co') : OX w0 b s i' o' d' op' q' la' co' v l w' :=
  ⟨h.hb, Lib.grownBy_trans h.g hg, hx, h.ob.kept h.hb hg⟩
theorem OX.drewN {w0 : World} {b : Nat} {s : ByteArray} {i : Nat} {o d : Value} {op : Bool} {q : Value} {la co : Bool} {v : Value} {l : List UInt8} {w : World}
    (h : OX w0 b s i o d op q la co v l w) (n : Nat) : OX w0 b s i o d op q la co v l (w.drewN n) := h.step (gb_drewN (World.grownBy.refl _ _) n) h.x
theorem OX.own {w0 : World} {b : Nat} {s : ByteArray} {i : Nat} {o d : Value} {op : Bool} {q : Value} {la co : Bool} {v : Value} {l : List UInt8} {w w1 : World}
    (h : OX w0 b s i o d op q la co v l w) (hg : w.grownBy w1 v.ownBlock) : w0.grownBy w1 (some b) ∧ LX w1 b s i o d op q la co := by
  have hne : ∀ k, k < w0.heap.size → some k ≠ v.ownBlock := fun k hk e => by have := h.ob.ge e.symm; omega
  refine ⟨⟨hg.os.trans h.g.os, hg.tape.trans h.g.tape, hg.output.trans h.g.output, Nat.le_trans h.g.size hg.size, fun k hk hkb => ?_⟩, (hg.block b (lt_of_block h.x) (hne b h.hb)).trans h.x⟩
  rw [hg.block k (Nat.lt_of_lt_of_le hk h.g.size) (hne k hk)]
  exact h.g.block k hk hkb
/-- a string is put behind -/
theorem OX.pushs {w0 : World} {b : Nat} {s : ByteArray} {i : Nat} {o d : Value} {op : Bool} {q : Value} {la co : Bool} {v : Value} {l : List UInt8} {w : World}
    (h : OX w0 b s i o d op q la co v l w) (x : ByteArray) (v' : Value) (w1 : World) (ho : w1.ownsRow w0.heap.size 5 1 v' (l.length + x.size) (bcs l ++ Lib.strCells x)) (hg : w.grownBy w1 v.ownBlock) :
    ∃ l', l'.length = l.length + x.size ∧ OX w0 b s i o d op q la co v' l' w1 := by
  obtain ⟨h1, h2⟩ := h.own hg
  have el : (l ++ x.data.toList).length = l.length + x.size := by rw [List.length_append, Array.length_toList]; rfl
  refine ⟨l ++ x.data.toList, el, h.hb, h1, h2, ?_⟩
  have e : bcs (l ++ x.data.toList) = bcs l ++ Lib.strCells x := by simp [bcs, Lib.strCells]
  unfold OB
  rw [e, el]
  exact ho
/-- a byte is put behind -/
theorem OX.pushb {w0 : World} {b : Nat} {s : ByteArray} {i : Nat} {o d : Value} {op : Bool} {q : Value} {la co : Bool} {v : Value} {l : List UInt8} {w : World}
    (h : OX w0 b s i o d op q la co v l w) (c : UInt8) :
    (w.alloc (.cells #[.int .u8 c.toNat] 5)).ownsRow w0.heap.size 5 1 v l.length (bcs l) ∧
    (∀ j u, [.int .u8 c.toNat][j]? = some u → (w.alloc (.cells #[.int .u8 c.toNat] 5)).cell? ((⟨w.heap.size, 0, none⟩ : Addr).add j) = some u) ∧ w0.heap.size ≤ (w.alloc (.cells #[.int .u8 c.toNat] 5)).heap.size ∧
    (∀ g2 cap2 w1, w1.ownsRow w0.heap.size 5 1 (.slice (some ⟨g2, 0, none⟩) (l.length + 1) cap2) (l.length + 1) (bcs l ++ [.int .u8 c.toNat]) → (w.alloc (.cells #[.int .u8 c.toNat] 5)).grownBy w1 v.ownBlock →
      OX w0 b s i o d op q la co (.slice (some ⟨g2, 0, none⟩) (l.length + 1) cap2) (l ++ [c]) w1) := by
  have hA : OX w0 b s i o d op q la co v l (w.alloc (.cells #[.int .u8 c.toNat] 5)) := h.step (World.grownBy_alloc _ _ _) (LX.alloc h.x _)
  refine ⟨hA.ob, World.news_of_block (heap_alloc_new w (.cells #[.int .u8 c.toNat] 5)), by have := h.g.size; simp; omega, fun g2 cap2 w1 ho hg => ?_⟩
  obtain ⟨h1, h2⟩ := hA.own hg
  refine ⟨h.hb, h1, h2, ?_⟩
  unfold OB
  rw [show bcs (l ++ [c]) = bcs l ++ [.int .u8 c.toNat] by simp [bcs], show (l ++ [c]).length = l.length + 1 by simp]
  exact ho
end Go.Proofs.YtblphppdfiipfaaDoor
