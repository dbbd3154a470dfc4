/- The lexer takes an escape. Conditions: none. -/
import Derived.Test.YtblphppdfiipfaaDoorCHex
import Derived.Deep.CutBlock
import Derived.Deep.DeepCutAuto
namespace Go.Proofs.YtblphppdfiipfaaDoor
open Go.RowKit

def EscPost (w : World) (b : Nat) (s : ByteArray) (p : Nat) (o d : Value) (op : Bool) (q : Value) (la co : Bool) (e : Ending) (w' : World) : Prop :=
  ∃ (x : ByteArray) (p' : Nat) (ok : Bool), e = .returned (.tuple #[.string x, .bool ok]) ∧ x.size ≤ 4 ∧ p < p' ∧ p' ≤ s.size ∧ w.grownBy w' (some b) ∧ LX w' b s p' o d op q la co

set_option maxRecDepth 100000
theorem LX.alloc {w : World} {b : Nat} {s : ByteArray} {p : Int} {o d : Value} {op : Bool} {q : Value} {la co : Bool} (h : LX w b s p o d op q la co) (x : Obj) : LX (w.alloc x) b s p o d op q la co := (Below.heap_alloc w x b (lt_of_block h)).trans h
theorem BoxL.set {w : World} {bx b : Nat} (h : BoxL w bx b) (hne : bx ≠ b) (i : Nat) (v : Value) : BoxL (w.setCell ⟨b, i, none⟩ v) bx b := (Below.heap_setCell w _ v bx hne).trans h
theorem bel_set {B : Nat} {w : World} {b : Nat} (hb : B ≤ b) (i : Nat) (v : Value) : Below B w (w.setCell ⟨b, i, none⟩ v) := (Below.refl _ _).setCell hb v

/-- is it a digit? (not opened by the walk) -/
def dg (c : Int) : Bool := decide (48 ≤ c ∧ c ≤ 57)
set_option maxHeartbeats 400000 in
theorem isDigit_any (c : Int) (w : World) :
    Calls Tryd.prog 8 #[.int .u8 c] w fun e w' => e = .returned (.bool (dg c)) ∧ w' = w := by
  by_cases h1 : 48 ≤ c
  · by_cases h2 : c ≤ 57
    · have hd : dg c = true := by simp [dg, h1, h2]
      rw [hd]
      clear hd
      go_enter Tryd.func8, Tryd.ntmps8
      go_wp2
      go_ret
      exact ⟨by simp [*], rfl⟩
    · have hd : dg c = false := by simp [dg]; omega
      rw [hd]
      clear hd
      go_enter Tryd.func8, Tryd.ntmps8
      go_wp2
      go_ret
      exact ⟨by simp [*], rfl⟩
  · have hd : dg c = false := by simp [dg]; omega
    rw [hd]
    clear hd
    go_enter Tryd.func8, Tryd.ntmps8
    go_wp2
    go_ret
    exact ⟨by simp [*], rfl⟩

theorem hex_at (T : World → Prop) (hT : ∀ w w' : World, Below w.heap.size w w' → T w → T w') (hU : PuSaid T) (bx b : Nat) (s : ByteArray) (p k : Nat) (pI kI : Int) (hpI : pI = p) (hkI : kI = k) (o d : Value) (op : Bool) (q : Value) (la co : Bool) (w : World) (hs : s.size ≤ 100) (hp : p ≤ s.size) (hk : k ≤ 100)
    (hX : LX w b s pI o d op q la co) (hb : BoxL w bx b) (hw : T w) :
    Calls Tryd.prog 34 #[.int .i64 kI, .pointer (some ⟨bx, 0, none⟩)] w (HexPost w b s p k o d op q la co) := by
  subst hpI; subst hkI
  exact hex_any T hT hU bx b s p k o d op q la co w hs hp hk hX hb hw
def EscLoop (T : World → Prop) (w : World) (bx b : Nat) (s : ByteArray) (p1 : Nat) (o d : Value) (op : Bool) (q : Value) (la co : Bool) (n : Nat) (i : Nat) (wx : World) : Prop :=
  n = s.size - i ∧ p1 + 2 ≤ i ∧ i ≤ s.size ∧ LX wx b s (p1 + 1 : Nat) o d op q la co ∧ BoxL wx bx b ∧ w.grownBy wx (some b) ∧ T wx
def F25 (b bx i : Nat) : (Nat → Value) → Act := FG 241 [(0, .pointer (some ⟨b, 0, none⟩)), (2, .pointer (some ⟨bx, 0, none⟩)), (7, .func (.func 34) #[] #[.pointer (some ⟨bx, 0, none⟩)]), (8, .int .i64 i)]
theorem F25_lit (b bx i : Nat) (u : Nat → Value) : F25 b bx i u = { tmps := #[.pointer (some ⟨b, 0, none⟩), u 1, .pointer (some ⟨bx, 0, none⟩), u 3, u 4, u 5, u 6, .func (.func 34) #[] #[.pointer (some ⟨bx, 0, none⟩)], .int .i64 i, u 9, u 10, u 11, u 12, u 13, u 14, u 15, u 16, u 17, u 18, u 19, u 20, u 21, u 22, u 23, u 24, u 25, u 26, u 27, u 28, u 29, u 30, u 31, u 32, u 33, u 34, u 35, u 36, u 37, u 38, u 39, u 40, u 41, u 42, u 43, u 44, u 45, u 46, u 47, u 48, u 49, u 50, u 51, u 52, u 53, u 54, u 55, u 56, u 57, u 58, u 59, u 60, u 61, u 62, u 63, u 64, u 65, u 66, u 67, u 68, u 69, u 70, u 71, u 72, u 73, u 74, u 75, u 76, u 77, u 78, u 79, u 80, u 81, u 82, u 83, u 84, u 85, u 86, u 87, u 88, u 89, u 90, u 91, u 92, u 93, u 94, u 95, u 96, u 97, u 98, u 99, u 100, u 101, u 102, u 103, u 104, u 105, u 106, u 107, u 108, u 109, u 110, u 111, u 112, u 113, u 114, u 115, u 116, u 117, u 118, u 119, u 120, u 121, u 122, u 123, u 124, u 125, u 126, u 127, u 128, u 129, u 130, u 131, u 132, u 133, u 134, u 135, u 136, u 137, u 138, u 139, u 140, u 141, u 142, u 143, u 144, u 145, u 146, u 147, u 148, u 149, u 150, u 151, u 152, u 153, u 154, u 155, u 156, u 157, u 158, u 159, u 160, u 161, u 162, u 163, u 164, u 165, u 166, u 167, u 168, u 169, u 170, u 171, u 172, u 173, u 174, u 175, u 176, u 177, u 178, u 179, u 180, u 181, u 182, u 183, u 184, u 185, u 186, u 187, u 188, u 189, u 190, u 191, u 192, u 193, u 194, u 195, u 196, u 197, u 198, u 199, u 200, u 201, u 202, u 203, u 204, u 205, u 206, u 207, u 208, u 209, u 210, u 211, u 212, u 213, u 214, u 215, u 216, u 217, u 218, u 219, u 220, u 221, u 222, u 223, u 224, u 225, u 226, u 227, u 228, u 229, u 230, u 231, u 232, u 233, u 234, u 235, u 236, u 237, u 238, u 239, u 240], defers := [] } := by kernel_rfl
theorem F25_at (b bx i : Nat) {L : List Value} (hl : L.length = 241) (hn : NmOk L [(0, .pointer (some ⟨b, 0, none⟩)), (2, .pointer (some ⟨bx, 0, none⟩)), (7, .func (.func 34) #[] #[.pointer (some ⟨bx, 0, none⟩)]), (8, .int .i64 i)]) : (F25 b bx i fun k => (Act.mk L.toArray []).tmps.getD k undef) = { tmps := L.toArray, defers := [] } := FG_at hl hn

theorem run_ins8 {P : Program} (w : World) (mty kt et : TypeId) (r clock : Nat) (l : Array MapEntry) (k v : Value) (hm : P.underlying mty = some (.map kt et)) (hk : P.underlying kt = some (.int .u8)) (hb : w.heap[r]? = some (.map l clock))
    (hki : MapKept.IsKey (.int .u8) k) (hf : Instr.findNow (.int .u8) k l.toList 0 = some none) :
    (Instr.mapUpdate mty (.map (some r)) k v).run P w = .ok () { w with heap := w.heap.setIfInBounds r (.map (l.push { key := k, val := v, born := clock }) (clock + 1)) } := by
  have hc : (Instr.checkKey false 10000 kt k).run P w = .ok () w := MapKept.run_checkKey hk hki false 9999
  simp [Instr.mapUpdate, run_underlying hm, MapKept.run_getObj_map hb, hc, MapKept.run_findKey hk hf, MapKept.run_setObj_map _ hb, Result.andThen]
theorem push_set {α : Type} (a : Array α) (x y : α) : (a.push x).setIfInBounds a.size y = a.push y := by
  apply Array.ext
  · simp
  · intro i h1 h2
    simp at h1 h2
    rw [Array.getElem_setIfInBounds (by simpa using h1), Array.getElem_push, Array.getElem_push]
    by_cases e : a.size = i
    · subst e; simp
    · have : i < a.size := by omega
      simp [e, this]
theorem run_insA (w : World) (r clock : Nat) (l : Array MapEntry) (k v : Value) (hr : r = w.heap.size) (hki : MapKept.IsKey (.int .u8) k) (hf : Instr.findNow (.int .u8) k l.toList 0 = some none) :
    (Instr.mapUpdate 60 (.map (some r)) k v).run Tryd.prog (w.alloc (.map l clock)) = .ok () (w.alloc (.map (l.push { key := k, val := v, born := clock }) (clock + 1))) := by
  subst hr
  rw [run_ins8 (w.alloc (.map l clock)) 60 5 3 w.heap.size clock l k v Tryd.underlying60 Tryd.underlying5 (heap_alloc_new w _) hki hf]
  show Result.ok () { (w.alloc (.map l clock)) with heap := (w.heap.push (.map l clock)).setIfInBounds w.heap.size (.map (l.push { key := k, val := v, born := clock }) (clock + 1)) } = _
  rw [push_set]
  rfl
theorem run_look8 (w : World) (r clock : Nat) (l : Array MapEntry) (k v : Value) (j : Nat) (hr : r = w.heap.size) (hki : MapKept.IsKey (.int .u8) k) (hf : Instr.findNow (.int .u8) k l.toList 0 = some (some (j, v))) :
    (Instr.lookup 60 (.map (some r)) k false).run Tryd.prog (w.alloc (.map l clock)) = .ok v (w.alloc (.map l clock)) := by
  subst hr
  have hb := heap_alloc_new w (.map l clock)
  have hc : (Instr.checkKey l.isEmpty 10000 5 k).run Tryd.prog (w.alloc (.map l clock)) = .ok () (w.alloc (.map l clock)) := MapKept.run_checkKey Tryd.underlying5 hki _ 9999
  simp [Instr.lookup, run_underlying Tryd.underlying60, MapKept.run_getObj_map hb, hc, MapKept.run_findKey Tryd.underlying5 hf, Result.andThen]
theorem ins0 (w : World) (r : Nat) (hr : r = w.heap.size) : (Instr.mapUpdate 60 (.map (some r)) (.int .u8 110) (.int .i64 0)).run Tryd.prog (w.alloc (.map #[] 0)) = .ok () (w.alloc (.map #[{ key := .int .u8 110, val := .int .i64 0, born := 0 }] 1)) := run_insA w r 0 _ _ _ hr rfl rfl
theorem ins1 (w : World) (r : Nat) (hr : r = w.heap.size) : (Instr.mapUpdate 60 (.map (some r)) (.int .u8 116) (.int .i64 1)).run Tryd.prog (w.alloc (.map #[{ key := .int .u8 110, val := .int .i64 0, born := 0 }] 1)) = .ok () (w.alloc (.map #[{ key := .int .u8 110, val := .int .i64 0, born := 0 }, { key := .int .u8 116, val := .int .i64 1, born := 1 }] 2)) := run_insA w r 1 _ _ _ hr rfl rfl
theorem ins2 (w : World) (r : Nat) (hr : r = w.heap.size) : (Instr.mapUpdate 60 (.map (some r)) (.int .u8 114) (.int .i64 2)).run Tryd.prog (w.alloc (.map #[{ key := .int .u8 110, val := .int .i64 0, born := 0 }, { key := .int .u8 116, val := .int .i64 1, born := 1 }] 2)) = .ok () (w.alloc (.map #[{ key := .int .u8 110, val := .int .i64 0, born := 0 }, { key := .int .u8 116, val := .int .i64 1, born := 1 }, { key := .int .u8 114, val := .int .i64 2, born := 2 }] 3)) := run_insA w r 2 _ _ _ hr rfl rfl
theorem ins3 (w : World) (r : Nat) (hr : r = w.heap.size) : (Instr.mapUpdate 60 (.map (some r)) (.int .u8 98) (.int .i64 3)).run Tryd.prog (w.alloc (.map #[{ key := .int .u8 110, val := .int .i64 0, born := 0 }, { key := .int .u8 116, val := .int .i64 1, born := 1 }, { key := .int .u8 114, val := .int .i64 2, born := 2 }] 3)) = .ok () (w.alloc (.map #[{ key := .int .u8 110, val := .int .i64 0, born := 0 }, { key := .int .u8 116, val := .int .i64 1, born := 1 }, { key := .int .u8 114, val := .int .i64 2, born := 2 }, { key := .int .u8 98, val := .int .i64 3, born := 3 }] 4)) := run_insA w r 3 _ _ _ hr rfl rfl
theorem ins4 (w : World) (r : Nat) (hr : r = w.heap.size) : (Instr.mapUpdate 60 (.map (some r)) (.int .u8 102) (.int .i64 4)).run Tryd.prog (w.alloc (.map #[{ key := .int .u8 110, val := .int .i64 0, born := 0 }, { key := .int .u8 116, val := .int .i64 1, born := 1 }, { key := .int .u8 114, val := .int .i64 2, born := 2 }, { key := .int .u8 98, val := .int .i64 3, born := 3 }] 4)) = .ok () (w.alloc (.map #[{ key := .int .u8 110, val := .int .i64 0, born := 0 }, { key := .int .u8 116, val := .int .i64 1, born := 1 }, { key := .int .u8 114, val := .int .i64 2, born := 2 }, { key := .int .u8 98, val := .int .i64 3, born := 3 }, { key := .int .u8 102, val := .int .i64 4, born := 4 }] 5)) := run_insA w r 4 _ _ _ hr rfl rfl
theorem ins5 (w : World) (r : Nat) (hr : r = w.heap.size) : (Instr.mapUpdate 60 (.map (some r)) (.int .u8 118) (.int .i64 5)).run Tryd.prog (w.alloc (.map #[{ key := .int .u8 110, val := .int .i64 0, born := 0 }, { key := .int .u8 116, val := .int .i64 1, born := 1 }, { key := .int .u8 114, val := .int .i64 2, born := 2 }, { key := .int .u8 98, val := .int .i64 3, born := 3 }, { key := .int .u8 102, val := .int .i64 4, born := 4 }] 5)) = .ok () (w.alloc (.map #[{ key := .int .u8 110, val := .int .i64 0, born := 0 }, { key := .int .u8 116, val := .int .i64 1, born := 1 }, { key := .int .u8 114, val := .int .i64 2, born := 2 }, { key := .int .u8 98, val := .int .i64 3, born := 3 }, { key := .int .u8 102, val := .int .i64 4, born := 4 }, { key := .int .u8 118, val := .int .i64 5, born := 5 }] 6)) := run_insA w r 5 _ _ _ hr rfl rfl
theorem look0 (w : World) (r : Nat) (c : Int) (hr : r = w.heap.size) (hc : (c == 110) = true) : (Instr.lookup 60 (.map (some r)) (.int .u8 c) false).run Tryd.prog (w.alloc (.map #[{ key := .int .u8 110, val := .int .i64 0, born := 0 }, { key := .int .u8 116, val := .int .i64 1, born := 1 }, { key := .int .u8 114, val := .int .i64 2, born := 2 }, { key := .int .u8 98, val := .int .i64 3, born := 3 }, { key := .int .u8 102, val := .int .i64 4, born := 4 }, { key := .int .u8 118, val := .int .i64 5, born := 5 }] 6)) = .ok (.int .i64 0) (w.alloc (.map #[{ key := .int .u8 110, val := .int .i64 0, born := 0 }, { key := .int .u8 116, val := .int .i64 1, born := 1 }, { key := .int .u8 114, val := .int .i64 2, born := 2 }, { key := .int .u8 98, val := .int .i64 3, born := 3 }, { key := .int .u8 102, val := .int .i64 4, born := 4 }, { key := .int .u8 118, val := .int .i64 5, born := 5 }] 6)) := by
  obtain rfl : c = 110 := by simpa using hc
  exact run_look8 w r 6 _ _ _ 0 hr rfl rfl
theorem look1 (w : World) (r : Nat) (c : Int) (hr : r = w.heap.size) (hc : (c == 116) = true) : (Instr.lookup 60 (.map (some r)) (.int .u8 c) false).run Tryd.prog (w.alloc (.map #[{ key := .int .u8 110, val := .int .i64 0, born := 0 }, { key := .int .u8 116, val := .int .i64 1, born := 1 }, { key := .int .u8 114, val := .int .i64 2, born := 2 }, { key := .int .u8 98, val := .int .i64 3, born := 3 }, { key := .int .u8 102, val := .int .i64 4, born := 4 }, { key := .int .u8 118, val := .int .i64 5, born := 5 }] 6)) = .ok (.int .i64 1) (w.alloc (.map #[{ key := .int .u8 110, val := .int .i64 0, born := 0 }, { key := .int .u8 116, val := .int .i64 1, born := 1 }, { key := .int .u8 114, val := .int .i64 2, born := 2 }, { key := .int .u8 98, val := .int .i64 3, born := 3 }, { key := .int .u8 102, val := .int .i64 4, born := 4 }, { key := .int .u8 118, val := .int .i64 5, born := 5 }] 6)) := by
  obtain rfl : c = 116 := by simpa using hc
  exact run_look8 w r 6 _ _ _ 1 hr rfl rfl
theorem look2 (w : World) (r : Nat) (c : Int) (hr : r = w.heap.size) (hc : (c == 114) = true) : (Instr.lookup 60 (.map (some r)) (.int .u8 c) false).run Tryd.prog (w.alloc (.map #[{ key := .int .u8 110, val := .int .i64 0, born := 0 }, { key := .int .u8 116, val := .int .i64 1, born := 1 }, { key := .int .u8 114, val := .int .i64 2, born := 2 }, { key := .int .u8 98, val := .int .i64 3, born := 3 }, { key := .int .u8 102, val := .int .i64 4, born := 4 }, { key := .int .u8 118, val := .int .i64 5, born := 5 }] 6)) = .ok (.int .i64 2) (w.alloc (.map #[{ key := .int .u8 110, val := .int .i64 0, born := 0 }, { key := .int .u8 116, val := .int .i64 1, born := 1 }, { key := .int .u8 114, val := .int .i64 2, born := 2 }, { key := .int .u8 98, val := .int .i64 3, born := 3 }, { key := .int .u8 102, val := .int .i64 4, born := 4 }, { key := .int .u8 118, val := .int .i64 5, born := 5 }] 6)) := by
  obtain rfl : c = 114 := by simpa using hc
  exact run_look8 w r 6 _ _ _ 2 hr rfl rfl
theorem look3 (w : World) (r : Nat) (c : Int) (hr : r = w.heap.size) (hc : (c == 98) = true) : (Instr.lookup 60 (.map (some r)) (.int .u8 c) false).run Tryd.prog (w.alloc (.map #[{ key := .int .u8 110, val := .int .i64 0, born := 0 }, { key := .int .u8 116, val := .int .i64 1, born := 1 }, { key := .int .u8 114, val := .int .i64 2, born := 2 }, { key := .int .u8 98, val := .int .i64 3, born := 3 }, { key := .int .u8 102, val := .int .i64 4, born := 4 }, { key := .int .u8 118, val := .int .i64 5, born := 5 }] 6)) = .ok (.int .i64 3) (w.alloc (.map #[{ key := .int .u8 110, val := .int .i64 0, born := 0 }, { key := .int .u8 116, val := .int .i64 1, born := 1 }, { key := .int .u8 114, val := .int .i64 2, born := 2 }, { key := .int .u8 98, val := .int .i64 3, born := 3 }, { key := .int .u8 102, val := .int .i64 4, born := 4 }, { key := .int .u8 118, val := .int .i64 5, born := 5 }] 6)) := by
  obtain rfl : c = 98 := by simpa using hc
  exact run_look8 w r 6 _ _ _ 3 hr rfl rfl
theorem look4 (w : World) (r : Nat) (c : Int) (hr : r = w.heap.size) (hc : (c == 102) = true) : (Instr.lookup 60 (.map (some r)) (.int .u8 c) false).run Tryd.prog (w.alloc (.map #[{ key := .int .u8 110, val := .int .i64 0, born := 0 }, { key := .int .u8 116, val := .int .i64 1, born := 1 }, { key := .int .u8 114, val := .int .i64 2, born := 2 }, { key := .int .u8 98, val := .int .i64 3, born := 3 }, { key := .int .u8 102, val := .int .i64 4, born := 4 }, { key := .int .u8 118, val := .int .i64 5, born := 5 }] 6)) = .ok (.int .i64 4) (w.alloc (.map #[{ key := .int .u8 110, val := .int .i64 0, born := 0 }, { key := .int .u8 116, val := .int .i64 1, born := 1 }, { key := .int .u8 114, val := .int .i64 2, born := 2 }, { key := .int .u8 98, val := .int .i64 3, born := 3 }, { key := .int .u8 102, val := .int .i64 4, born := 4 }, { key := .int .u8 118, val := .int .i64 5, born := 5 }] 6)) := by
  obtain rfl : c = 102 := by simpa using hc
  exact run_look8 w r 6 _ _ _ 4 hr rfl rfl
theorem look5 (w : World) (r : Nat) (c : Int) (hr : r = w.heap.size) (hc : (c == 118) = true) : (Instr.lookup 60 (.map (some r)) (.int .u8 c) false).run Tryd.prog (w.alloc (.map #[{ key := .int .u8 110, val := .int .i64 0, born := 0 }, { key := .int .u8 116, val := .int .i64 1, born := 1 }, { key := .int .u8 114, val := .int .i64 2, born := 2 }, { key := .int .u8 98, val := .int .i64 3, born := 3 }, { key := .int .u8 102, val := .int .i64 4, born := 4 }, { key := .int .u8 118, val := .int .i64 5, born := 5 }] 6)) = .ok (.int .i64 5) (w.alloc (.map #[{ key := .int .u8 110, val := .int .i64 0, born := 0 }, { key := .int .u8 116, val := .int .i64 1, born := 1 }, { key := .int .u8 114, val := .int .i64 2, born := 2 }, { key := .int .u8 98, val := .int .i64 3, born := 3 }, { key := .int .u8 102, val := .int .i64 4, born := 4 }, { key := .int .u8 118, val := .int .i64 5, born := 5 }] 6)) := by
  obtain rfl : c = 118 := by simpa using hc
  exact run_look8 w r 6 _ _ _ 5 hr rfl rfl

set_option maxHeartbeats 2000000 in
theorem esc_any (B : Nat) (T : World → Prop) (hT : ∀ w w' : World, Below B w w' → T w → T w') (hTB : ∀ w, T w → B ≤ w.heap.size) (hD : DecSaid T) (hU : PuSaid T) (b : Nat) (hBb : B ≤ b) (s : ByteArray) (p : Nat) (o d : Value) (op : Bool) (q : Value) (la co : Bool) (tm : Bool) (w : World) (hs : s.size ≤ 100) (hp : p < s.size)
    (hX : LX w b s p o d op q la co) (hw : T w) :
    Calls Tryd.prog 25 #[.pointer (some ⟨b, 0, none⟩), .bool tm] w (EscPost w b s p o d op q la co) := by
  have hT' : ∀ w w' : World, Below w.heap.size w w' → T w → T w' := fun w w' h hw => hT _ _ (h.mono (hTB w hw)) hw
  obtain ⟨c0, c1, _, _, c4, c5, _, _, _⟩ := hX.cells
  have f1 := hX.free 1
  have hlb := lt_of_block hX
  have hnb : b ≠ w.heap.size := by omega
  have HX := Lib.hid hX; clear hX
  go_enter Tryd.func25, Tryd.ntmps25
  go_wp2
  have e1 : LX ((w.setCell ⟨b, 1, none⟩ (.int .i64 ((p : Int) + 1))).alloc (.cells #[.pointer (some ⟨b, 0, none⟩)] 35)) b s (p + 1 : Nat) o d op q la co := (LX.set1 HX.out _).alloc _
  have e2 : BoxL ((w.setCell ⟨b, 1, none⟩ (.int .i64 ((p : Int) + 1))).alloc (.cells #[.pointer (some ⟨b, 0, none⟩)] 35)) w.heap.size b := by
    have := heap_alloc_new (w.setCell ⟨b, 1, none⟩ (.int .i64 ((p : Int) + 1))) (.cells #[.pointer (some ⟨b, 0, none⟩)] 35)
    simpa [BoxL] using this
  have e3 : w.grownBy ((w.setCell ⟨b, 1, none⟩ (.int .i64 ((p : Int) + 1))).alloc (.cells #[.pointer (some ⟨b, 0, none⟩)] 35)) (some b) := Lib.grownBy_allocR (gb_set (World.grownBy.refl _ _) _ _) _
  have e4 : T ((w.setCell ⟨b, 1, none⟩ (.int .i64 ((p : Int) + 1))).alloc (.cells #[.pointer (some ⟨b, 0, none⟩)] 35)) := hT _ _ ((bel_set hBb _ _).alloc (by have := hTB w hw; simpa using this) _) hw
  generalize hW : (w.setCell ⟨b, 1, none⟩ (.int .i64 ((p : Int) + 1))).alloc (.cells #[.pointer (some ⟨b, 0, none⟩)] 35) = W at e1 e2 e3 e4 ⊢
  have hne : w.heap.size ≠ b := by omega
  generalize hbx : w.heap.size = bx at e2 hne ⊢
  clear hW hbx c0 c1 c4 c5 f1 hlb hnb HX
  obtain ⟨p1, hp1, hp2⟩ : ∃ p1, p + 1 = p1 ∧ p < p1 := ⟨p + 1, rfl, by omega⟩
  have hp3 : p1 ≤ s.size := by omega
  rw [hp1] at e1
  clear hp1
  obtain ⟨c0, c1, _, _, c4, c5, _, _, _⟩ := e1.cells
  have f1 := e1.free 1
  have x0 := cell_of_one e2
  have HL := Lib.hid e1; clear e1
  have HB := Lib.hid e2; clear e2
  have HG := Lib.hid e3; clear e3
  by_cases hlt : p1 < s.size
  · have z2 : ((p1 : Int) == s.size) = false := by simp; omega
    go_quiet (fail)
    go_wp2
    go_quiet (fail)
    have hmm := @run_makeMap Tryd.prog
    have i0 := ins0; have i1 := ins1; have i2 := ins2; have i3 := ins3; have i4 := ins4; have i5 := ins5
    have l0 := look0; have l1 := look1; have l2 := look2; have l3 := look3; have l4 := look4; have l5 := look5
    go_wp2_with fail
    · go_ret2
      exact ⟨_, p1 + 1, true, rfl, enc_size _, by omega, by omega, Lib.grownBy_allocR (gb_set (by exact ⟨HG.out.os, HG.out.tape, HG.out.output, HG.out.size, HG.out.block⟩) _ _) _, LX.alloc (LX.set1 (p := p1) (by exact HL.out) _) _⟩
    · go_ret2
      exact ⟨_, p1 + 1, true, rfl, enc_size _, by omega, by omega, Lib.grownBy_allocR (gb_set (by exact ⟨HG.out.os, HG.out.tape, HG.out.output, HG.out.size, HG.out.block⟩) _ _) _, LX.alloc (LX.set1 (p := p1) (by exact HL.out) _) _⟩
    · go_ret2
      exact ⟨_, p1 + 1, true, rfl, enc_size _, by omega, by omega, Lib.grownBy_allocR (gb_set (by exact ⟨HG.out.os, HG.out.tape, HG.out.output, HG.out.size, HG.out.block⟩) _ _) _, LX.alloc (LX.set1 (p := p1) (by exact HL.out) _) _⟩
    · go_ret2
      exact ⟨_, p1 + 1, true, rfl, enc_size _, by omega, by omega, Lib.grownBy_allocR (gb_set (by exact ⟨HG.out.os, HG.out.tape, HG.out.output, HG.out.size, HG.out.block⟩) _ _) _, LX.alloc (LX.set1 (p := p1) (by exact HL.out) _) _⟩
    · go_ret2
      exact ⟨_, p1 + 1, true, rfl, enc_size _, by omega, by omega, Lib.grownBy_allocR (gb_set (by exact ⟨HG.out.os, HG.out.tape, HG.out.output, HG.out.size, HG.out.block⟩) _ _) _, LX.alloc (LX.set1 (p := p1) (by exact HL.out) _) _⟩
    · go_ret2
      exact ⟨_, p1 + 1, true, rfl, enc_size _, by omega, by omega, Lib.grownBy_allocR (gb_set (by exact ⟨HG.out.os, HG.out.tape, HG.out.output, HG.out.size, HG.out.block⟩) _ _) _, LX.alloc (LX.set1 (p := p1) (by exact HL.out) _) _⟩
    · clear hmm i0 i1 i2 i3 i4 i5 l0 l1 l2 l3 l4 l5
      by_cases hl2 : p1 + 1 < s.size
      · obtain ⟨w4, w5, w3, w2, w1⟩ := idx1 hs hl2
        have z3 : (((p1 : Int) + 1) == s.size) = false := by simp; omega
        go_quiet ((go_at_call 8; exact (isDigit_any _ _).mono fun _ _ h => ⟨h.1, _, h.2⟩))
        go_wp2
        go_ret2
        exact ⟨_, p1 + 1, _, rfl, by decide, by omega, by omega, gb_drewN (gb_set (by exact ⟨HG.out.os, HG.out.tape, HG.out.output, HG.out.size, HG.out.block⟩) _ _) _, LX.set1 (p := p1) (by exact HL.out) _⟩
      · have z3 : (((p1 : Int) + 1) == s.size) = true := by simp; omega
        go_quiet ((go_at_call 8; exact (isDigit_any _ _).mono fun _ _ h => ⟨h.1, _, h.2⟩))
        go_wp2
        go_ret2
        exact ⟨_, p1 + 1, _, rfl, by decide, by omega, by omega, gb_drewN (gb_set (by exact ⟨HG.out.os, HG.out.tape, HG.out.output, HG.out.size, HG.out.block⟩) _ _) _, LX.set1 (p := p1) (by exact HL.out) _⟩
    · clear hmm i0 i1 i2 i3 i4 i5 l0 l1 l2 l3 l4 l5
      refine (hex_at T hT' hU bx b s (p1 + 1) 2 ((p1 : Int) + 1) 2 (by omega) (by omega) o d op q la co _ hs (by omega) (by omega) (LX.set1 (p := p1) (by exact HL.out) _) (BoxL.set (by exact HB.out) hne _ _) (hT _ _ ((bel_drewN B W _).trans (bel_set hBb _ _)) e4)).mono ?_
      rintro e w' ⟨x, p', ok, rfl, hx1, hx2, hx3, hx4, hg, hl⟩
      have HG2 := Lib.hid hg; clear hg
      have HL2 := Lib.hid hl; clear hl
      go_wp2
      go_ret2
      exact ⟨x, p', ok, rfl, hx1, by omega, hx4, Lib.grownBy_trans (by exact gb_set (by exact ⟨HG.out.os, HG.out.tape, HG.out.output, HG.out.size, HG.out.block⟩) _ _) HG2.out, HL2.out⟩
    · clear hmm i0 i1 i2 i3 i4 i5 l0 l1 l2 l3 l4 l5
      have HEX4 : ∀ wx : World, w.grownBy wx (some b) → LX wx b s (p1 + 1 : Nat) o d op q la co → BoxL wx bx b → T wx → Calls Tryd.prog 34 #[.int .i64 4, .pointer (some ⟨bx, 0, none⟩)] wx (EscPost w b s p o d op q la co) := by
        intro wx hgx hlx hbx htx
        refine (hex_at T hT' hU bx b s (p1 + 1) 4 ((p1 + 1 : Nat) : Int) 4 rfl rfl o d op q la co wx hs (by omega) (by omega) hlx hbx htx).mono ?_
        rintro e w' ⟨x, p', ok, rfl, hx1, hx2, hx3, hx4, hg, hl⟩
        exact ⟨x, p', ok, rfl, hx1, by omega, hx4, Lib.grownBy_trans hgx hg, hl⟩
      have HEX4 := Lib.hid HEX4
      by_cases hl2 : p1 + 1 < s.size
      · obtain ⟨w4, w5, w3, w2, w1⟩ := idx1 hs hl2
        by_cases k123 : (s[p1 + 1].toNat : Int) = 123
        · have e123 : ((s[p1 + 1].toNat : Int) == 123) = true := by simpa using k123
          clear k123
          go_quiet (fail)
          go_wp2
          clear HEX4 e123
          refine wp_loop_x (F25 b bx) (EscLoop T w bx b s p1 o d op q la co) (s.size - (p1 + 2)) (p1 + 2) ⟨rfl, Nat.le_refl _, by omega, by exact LX.set1 (p := p1) (by exact HL.out) _, by exact BoxL.set (by exact HB.out) hne _ _, by exact gb_drewN (gb_set (by exact ⟨HG.out.os, HG.out.tape, HG.out.output, HG.out.size, HG.out.block⟩) _ _) _, hT W _ (by exact (((bel_drewN B W _).trans (bel_set hBb _ _)).trans (bel_drewN _ _ _))) e4⟩ (F25_at _ _ _ rfl ⟨rfl, rfl, rfl, rfl, trivial⟩) ?_
          intro n i u wx hrel K hK
          obtain ⟨hn, hi1, hi2, hL2, hB2, hG2, hT2⟩ := hrel
          have HN := Lib.hid hn; clear hn
          have HK := Lib.hid hK; clear hK
          clear c0 c1 c4 c5 f1 x0 z2
          obtain ⟨c0, c1, _, _, c4, c5, _, _, _⟩ := hL2.cells
          have f1 := hL2.free 1
          have x0 := cell_of_one hB2
          have HL2 := Lib.hid hL2; clear hL2
          have HB2 := Lib.hid hB2; clear hB2
          have HG2 := Lib.hid hG2; clear hG2
          rw [F25_lit]
          clear w1 w2 w3 w4 w5
          by_cases hi3 : i < s.size
          · by_cases k125 : (s[i].toNat : Int) = 125
            · have e125 : ((s[i].toNat : Int) != 125) = false := by simp [k125]
              clear k125
              obtain ⟨k, hk⟩ : ∃ k, i = p1 + 2 + k := ⟨i - (p1 + 2), by omega⟩
              have hk' : (i : Int) - ((p1 : Int) + 1) - 1 = k := by omega
              have hkb : k ≤ 100 := by omega
              have hkc : p1 + 2 + k < s.size := by omega
              have HKK := Lib.hid hk; clear hk
              have hz : ((i : Int) == s.size) = false := by simp; omega
              go_wp2_with fail
              all_goals first
                | (go_ret2
                   exact ⟨_, p1 + 1, false, rfl, by decide, by omega, by omega, HG2.out, HL2.out⟩)
                | (refine (hex_at T hT' hU bx b s (p1 + 2) k ((p1 : Int) + 1 + 1) k (by omega) rfl o d op q la co _ hs (by omega) hkb (LX.set1 (p := (p1 + 1 : Nat)) (by exact HL2.out) _) (BoxL.set (by exact HB2.out) hne _ _) (hT _ _ (bel_set hBb _ _) hT2)).mono ?_
                   rintro e w' ⟨x, p', ok, rfl, hx1, hx2, hx3, hx4, hg, hl⟩
                   have hb3 : BoxL w' bx b := (hg.block bx (lt_of_block (BoxL.set HB2.out hne 1 (.int .i64 ((p1 : Int) + 1 + 1)))) (by simpa using hne)).trans (BoxL.set HB2.out hne _ _)
                   have HG3 := Lib.hid hg; clear hg
                   clear c0 c1 c4 c5 f1 x0 hk'
                   obtain ⟨c0, c1, _, _, c4, c5, _, _, _⟩ := hl.cells
                   have f1 := hl.free 1
                   have x0 := cell_of_one hb3
                   have HL3 := Lib.hid hl; clear hl
                   clear hb3
                   go_wp2
                   go_ret2
                   exact ⟨x, p' + 1, ok, rfl, hx1, by omega, by omega, gb_set (Lib.grownBy_trans (by exact gb_set HG2.out _ _) HG3.out) _ _, LX.set1 (p := p') (by exact HL3.out) _⟩)
            · have e125 : ((s[i].toNat : Int) != 125) = true := by simpa using k125
              clear k125
              go_wp2
              exact HK.out (s.size - (i + 1)) (i + 1) _ _ (by have := HN.out; omega) ⟨rfl, by omega, by omega, HL2.out, HB2.out, HG2.out, hT2⟩ (F25_at _ _ _ rfl ⟨rfl, rfl, rfl, rfl, trivial⟩)
          · have hz : ((i : Int) == s.size) = true := by simp; omega
            have hie : i = s.size := by omega
            go_wp2_with fail
            all_goals
              go_ret2
              exact ⟨_, p1 + 1, false, rfl, by decide, by omega, by omega, HG2.out, HL2.out⟩
        · have e123 : ((s[p1 + 1].toNat : Int) == 123) = false := by simpa using k123
          clear k123
          go_quiet (fail)
          go_wp2_with fail
          refine (HEX4.out _ (by exact gb_drewN (gb_set (by exact ⟨HG.out.os, HG.out.tape, HG.out.output, HG.out.size, HG.out.block⟩) _ _) _) (by exact LX.set1 (p := p1) (by exact HL.out) _) (by exact BoxL.set (by exact HB.out) hne _ _) (hT W _ (by exact (((bel_drewN B W _).trans (bel_set hBb _ _)).trans (bel_drewN _ _ _))) e4)).mono ?_
          rintro e w' ⟨x, p', ok, rfl, hx1, hx2, hx3, hg, hl⟩
          have HG2 := Lib.hid hg; clear hg
          have HL2 := Lib.hid hl; clear hl
          go_wp2
          go_ret2
          exact ⟨x, p', ok, rfl, hx1, by omega, hx3, HG2.out, HL2.out⟩
      · have w4 : decide ((p1 : Int) + 1 < s.size) = false := by simpa using (by omega)
        go_quiet (fail)
        go_wp2_with fail
        refine (HEX4.out _ (by exact gb_drewN (gb_set (by exact ⟨HG.out.os, HG.out.tape, HG.out.output, HG.out.size, HG.out.block⟩) _ _) _) (by exact LX.set1 (p := p1) (by exact HL.out) _) (by exact BoxL.set (by exact HB.out) hne _ _) (hT W _ (by exact (((bel_drewN B W _).trans (bel_set hBb _ _)).trans (bel_drewN _ _ _))) e4)).mono ?_
        rintro e w' ⟨x, p', ok, rfl, hx1, hx2, hx3, hg, hl⟩
        have HG2 := Lib.hid hg; clear hg
        have HL2 := Lib.hid hl; clear hl
        go_wp2
        go_ret2
        exact ⟨x, p', ok, rfl, hx1, by omega, hx3, HG2.out, HL2.out⟩
    · go_ret2
      exact ⟨_, p1 + 1, true, rfl, by decide, by omega, by omega, (gb_set (by exact ⟨HG.out.os, HG.out.tape, HG.out.output, HG.out.size, HG.out.block⟩) _ _), LX.set1 (p := p1) (by exact HL.out) _⟩
    · go_ret2
      exact ⟨_, p1, false, rfl, by decide, by omega, by omega, (by exact ⟨HG.out.os, HG.out.tape, HG.out.output, HG.out.size, HG.out.block⟩), (by exact HL.out)⟩
    · clear hmm i0 i1 i2 i3 i4 i5 l0 l1 l2 l3 l4 l5
      refine (isDigit_any _ _).mono ?_
      rintro e w' ⟨rfl, rfl⟩
      generalize hdg : dg (s[p1].toNat : Int) = g
      clear hdg
      cases g
      · go_wp2_with fail
        refine (rune_any T hT' hD b s p1 o d op q la co _ hs hlt (by exact HL.out) (hT _ _ (bel_drewN B W _) e4)).mono ?_
        rintro e w' ⟨x, p', rfl, hx1, hx2, hx3, hg, hl⟩
        have HG2 := Lib.hid hg; clear hg
        have HL2 := Lib.hid hl; clear hl
        go_wp2
        all_goals
          go_ret2
          exact ⟨x, p', _, rfl, hx1, by omega, hx3, Lib.grownBy_trans (by exact ⟨HG.out.os, HG.out.tape, HG.out.output, HG.out.size, HG.out.block⟩) HG2.out, HL2.out⟩
      · go_wp2
        go_ret2
        exact ⟨_, p1, false, rfl, by decide, by omega, by omega, (by exact ⟨HG.out.os, HG.out.tape, HG.out.output, HG.out.size, HG.out.block⟩), (by exact HL.out)⟩
  · have z2 : ((p1 : Int) == s.size) = true := by simp; omega
    go_quiet (fail)
    go_wp2
    go_ret2
    exact ⟨_, p1, false, rfl, by decide, by omega, by omega, ⟨HG.out.os, HG.out.tape, HG.out.output, HG.out.size, HG.out.block⟩, HL.out⟩
end Go.Proofs.YtblphppdfiipfaaDoor
