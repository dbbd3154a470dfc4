/- The block of a decimal, and its trimming. Conditions: none. -/
import Derived.Test.YtblphppdfiipfaaDoorCKit
import Derived.Test.YtblphppdfiipfaaDoorCDigits
import Derived.WalkMore
namespace Go.Proofs.YtblphppdfiipfaaDoor
open Go.RowKit
set_option maxRecDepth 100000

/-- a decimal's cells -/
def dcells (d : Nat → Nat) (nd : Nat) (dp : Int) (tr : Bool) : Array Value := (((List.range 800).map fun i => Value.int .u8 (d i)) ++ [Value.int .i64 nd, Value.int .i64 dp, Value.bool false, Value.bool tr]).toArray
def DB (w : World) (g : Nat) (d : Nat → Nat) (nd : Nat) (dp : Int) (tr : Bool) : Prop := w.heap[g]? = some (.cells (dcells d nd dp tr) 114 (0, 0))
def upd (d : Nat → Nat) (i v : Nat) : Nat → Nat := fun j => if j = i then v else d j

theorem dc_get {d : Nat → Nat} {nd : Nat} {dp : Int} {tr : Bool} {i : Nat} (h : i < 800) : (dcells d nd dp tr)[i]? = some (.int .u8 (d i)) := by
  unfold dcells
  rw [List.getElem?_toArray, List.getElem?_append_left (by simpa using h), List.getElem?_map, List.getElem?_range h]
  rfl
theorem dc_hi {d : Nat → Nat} {nd : Nat} {dp : Int} {tr : Bool} (j : Nat) : (dcells d nd dp tr)[800 + j]? = [Value.int .i64 nd, Value.int .i64 dp, Value.bool false, Value.bool tr][j]? := by
  unfold dcells
  rw [List.getElem?_toArray, List.getElem?_append_right (by simp)]
  simp
theorem dc_e0 (d : Nat → Nat) (nd : Nat) (dp : Int) (tr : Bool) : (dcells d nd dp tr)[800]? = some (.int .i64 nd) := dc_hi 0
theorem dc_e1 (d : Nat → Nat) (nd : Nat) (dp : Int) (tr : Bool) : (dcells d nd dp tr)[801]? = some (.int .i64 dp) := dc_hi 1
theorem dc_e2 (d : Nat → Nat) (nd : Nat) (dp : Int) (tr : Bool) : (dcells d nd dp tr)[802]? = some (.bool false) := dc_hi 2
theorem dc_e3 (d : Nat → Nat) (nd : Nat) (dp : Int) (tr : Bool) : (dcells d nd dp tr)[803]? = some (.bool tr) := dc_hi 3
theorem dc_size (d : Nat → Nat) (nd : Nat) (dp : Int) (tr : Bool) : (dcells d nd dp tr).size = 804 := by simp [dcells]
theorem DB.cell {w : World} {g : Nat} {d : Nat → Nat} {nd : Nat} {dp : Int} {tr : Bool} (h : DB w g d nd dp tr) {i : Nat} (hi : i < 800) : w.cell? ⟨g, i, none⟩ = some (.int .u8 (d i)) := by
  unfold DB at h
  have := dc_get (d := d) (nd := nd) (dp := dp) (tr := tr) hi
  simp [World.cell?, h, this]
theorem DB.cells {w : World} {g : Nat} {d : Nat → Nat} {nd : Nat} {dp : Int} {tr : Bool} (h : DB w g d nd dp tr) :
    w.cell? ⟨g, 800, none⟩ = some (.int .i64 nd) ∧ w.cell? ⟨g, 801, none⟩ = some (.int .i64 dp) ∧ w.cell? ⟨g, 802, none⟩ = some (.bool false) ∧ w.cell? ⟨g, 803, none⟩ = some (.bool tr) := by
  unfold DB at h
  have e0 := dc_hi (d := d) (nd := nd) (dp := dp) (tr := tr) 0
  have e1 := dc_hi (d := d) (nd := nd) (dp := dp) (tr := tr) 1
  have e2 := dc_hi (d := d) (nd := nd) (dp := dp) (tr := tr) 2
  have e3 := dc_hi (d := d) (nd := nd) (dp := dp) (tr := tr) 3
  refine ⟨?_, ?_, ?_, ?_⟩
  · simpa [World.cell?, h] using e0
  · simpa [World.cell?, h] using e1
  · simpa [World.cell?, h] using e2
  · simpa [World.cell?, h] using e3
theorem DB.free {w : World} {g : Nat} {d : Nat → Nat} {nd : Nat} {dp : Int} {tr : Bool} (h : DB w g d nd dp tr) (i : Nat) : w.frozen? ⟨g, i, none⟩ = false := by
  unfold DB at h
  simp [World.frozen?, h]
theorem DB.setAt {w : World} {g : Nat} {d : Nat → Nat} {nd : Nat} {dp : Int} {tr : Bool} (h : DB w g d nd dp tr) (i : Nat) (v : Value) :
    (w.setCell ⟨g, i, none⟩ v).heap[g]? = some (.cells ((dcells d nd dp tr).set! i v) 114 (0, 0)) := by
  have hlt := lt_of_block h
  unfold DB at h
  rw [Array.getElem?_eq_getElem hlt, Option.some.injEq] at h
  show (w.heap.modify g _)[g]? = _
  rw [Array.getElem?_eq_getElem (by simpa using hlt), Array.getElem_modify_self, h]
  rfl
theorem dc_ext {C D : Array Value} (h1 : C.size = 804) (h2 : D.size = 804) (h : ∀ j, j < 800 → C[j]? = D[j]?) (h0 : C[800]? = D[800]?) (h3 : C[801]? = D[801]?) (h4 : C[802]? = D[802]?) (h5 : C[803]? = D[803]?) : C = D := by
  apply Array.ext_getElem?
  intro j
  by_cases hj : j < 800
  · exact h j hj
  by_cases e0 : j = 800
  · rw [e0]; exact h0
  by_cases e1 : j = 801
  · rw [e1]; exact h3
  by_cases e2 : j = 802
  · rw [e2]; exact h4
  by_cases e3 : j = 803
  · rw [e3]; exact h5
  rw [Array.getElem?_eq_none (by omega), Array.getElem?_eq_none (by omega)]
theorem set_get (C : Array Value) (i j : Nat) (v : Value) (hi : i < C.size) : (C.set! i v)[j]? = if j = i then some v else C[j]? := by
  rw [Array.set!_eq_setIfInBounds, Array.getElem?_setIfInBounds]
  by_cases h : i = j
  · subst h; simp [hi]
  · rw [if_neg h, if_neg (fun e => h e.symm)]
theorem DB.set {w : World} {g : Nat} {d : Nat → Nat} {nd : Nat} {dp : Int} {tr : Bool} (h : DB w g d nd dp tr) {i : Nat} (hi : i < 800) (v : Nat) : DB (w.setCell ⟨g, i, none⟩ (.int .u8 v)) g (upd d i v) nd dp tr := by
  unfold DB
  rw [h.setAt]
  refine congrArg (fun C => some (Obj.cells C 114 (0, 0))) ?_
  have hs := dc_size d nd dp tr
  refine dc_ext (by simp [hs]) (dc_size _ _ _ _) (fun j hj => ?_) ?_ ?_ ?_ ?_
  · rw [set_get _ _ _ _ (by omega), dc_get hj, dc_get hj]
    unfold upd
    by_cases e : j = i
    · rw [if_pos e, if_pos e]
    · rw [if_neg e, if_neg e]
  · rw [set_get _ _ _ _ (by omega), if_neg (by omega)]; rw [dc_e0, dc_e0]
  · rw [set_get _ _ _ _ (by omega), if_neg (by omega)]; rw [dc_e1, dc_e1]
  · rw [set_get _ _ _ _ (by omega), if_neg (by omega)]; rw [dc_e2, dc_e2]
  · rw [set_get _ _ _ _ (by omega), if_neg (by omega)]; rw [dc_e3, dc_e3]
theorem DB.setNd {w : World} {g : Nat} {d : Nat → Nat} {nd : Nat} {dp : Int} {tr : Bool} (h : DB w g d nd dp tr) (v : Nat) : DB (w.setCell ⟨g, 800, none⟩ (.int .i64 v)) g d v dp tr := by
  unfold DB
  rw [h.setAt]
  refine congrArg (fun C => some (Obj.cells C 114 (0, 0))) ?_
  have hs := dc_size d nd dp tr
  refine dc_ext (by simp [hs]) (dc_size _ _ _ _) (fun j hj => ?_) ?_ ?_ ?_ ?_
  · rw [set_get _ _ _ _ (by omega), dc_get hj, dc_get hj, if_neg (by omega)]
  · rw [set_get _ _ _ _ (by omega), if_pos rfl, dc_e0]
  · rw [set_get _ _ _ _ (by omega), if_neg (by omega)]; rw [dc_e1, dc_e1]
  · rw [set_get _ _ _ _ (by omega), if_neg (by omega)]; rw [dc_e2, dc_e2]
  · rw [set_get _ _ _ _ (by omega), if_neg (by omega)]; rw [dc_e3, dc_e3]
theorem DB.setDp {w : World} {g : Nat} {d : Nat → Nat} {nd : Nat} {dp : Int} {tr : Bool} (h : DB w g d nd dp tr) (v : Int) : DB (w.setCell ⟨g, 801, none⟩ (.int .i64 v)) g d nd v tr := by
  unfold DB
  rw [h.setAt]
  refine congrArg (fun C => some (Obj.cells C 114 (0, 0))) ?_
  have hs := dc_size d nd dp tr
  refine dc_ext (by simp [hs]) (dc_size _ _ _ _) (fun j hj => ?_) ?_ ?_ ?_ ?_
  · rw [set_get _ _ _ _ (by omega), dc_get hj, dc_get hj, if_neg (by omega)]
  · rw [set_get _ _ _ _ (by omega), if_neg (by omega)]; rw [dc_e0, dc_e0]
  · rw [set_get _ _ _ _ (by omega), if_pos rfl, dc_e1]
  · rw [set_get _ _ _ _ (by omega), if_neg (by omega)]; rw [dc_e2, dc_e2]
  · rw [set_get _ _ _ _ (by omega), if_neg (by omega)]; rw [dc_e3, dc_e3]
theorem DB.setTr {w : World} {g : Nat} {d : Nat → Nat} {nd : Nat} {dp : Int} {tr : Bool} (h : DB w g d nd dp tr) (v : Bool) : DB (w.setCell ⟨g, 803, none⟩ (.bool v)) g d nd dp v := by
  unfold DB
  rw [h.setAt]
  refine congrArg (fun C => some (Obj.cells C 114 (0, 0))) ?_
  have hs := dc_size d nd dp tr
  refine dc_ext (by simp [hs]) (dc_size _ _ _ _) (fun j hj => ?_) ?_ ?_ ?_ ?_
  · rw [set_get _ _ _ _ (by omega), dc_get hj, dc_get hj, if_neg (by omega)]
  · rw [set_get _ _ _ _ (by omega), if_neg (by omega)]; rw [dc_e0, dc_e0]
  · rw [set_get _ _ _ _ (by omega), if_neg (by omega)]; rw [dc_e1, dc_e1]
  · rw [set_get _ _ _ _ (by omega), if_neg (by omega)]; rw [dc_e2, dc_e2]
  · rw [set_get _ _ _ _ (by omega), if_pos rfl, dc_e3]

open Dc
/-- the digits that count stand in the cells -/
def DR (V nd : Nat) (dc : Nat → Nat) : Prop := (∀ i, i < nd → dc i = 48 + dgt V i) ∧ (∀ i, nd ≤ i → dgt V i = 0) ∧ nd ≤ N8
/-- a decimal's state -/
def Dst (w : World) (g V : Nat) (dp : Int) (tr : Bool) (nd : Nat) : Prop := ∃ dc, DB w g dc nd dp tr ∧ DR V nd dc
def Trm (V nd : Nat) : Prop := 1 ≤ nd ∧ dgt V (nd - 1) ≠ 0
open Dc
set_option maxRecDepth 100000

def F94 (g : Nat) : (Nat → Value) → Act := FG 35 [(0, .pointer (some ⟨g, 0, none⟩))]
theorem F94_lit (g : Nat) (u : Nat → Value) : F94 g u = { tmps := #[.pointer (some ⟨g, 0, none⟩), u 1, u 2, u 3, u 4, u 5, u 6, u 7, u 8, u 9, u 10, u 11, u 12, u 13, u 14, u 15, u 16, u 17, u 18, u 19, u 20, u 21, u 22, u 23, u 24, u 25, u 26, u 27, u 28, u 29, u 30, u 31, u 32, u 33, u 34], defers := [] } := by kernel_rfl
theorem F94_at (g : Nat) {L : List Value} (hl : L.length = 35) (hn : NmOk L [(0, .pointer (some ⟨g, 0, none⟩))]) : (F94 g fun k => (Act.mk L.toArray []).tmps.getD k undef) = { tmps := L.toArray, defers := [] } := FG_at hl hn

def TrimPost (w : World) (g V : Nat) (dp : Int) (tr : Bool) (e : Ending) (w' : World) : Prop :=
  e = .returned (.tuple #[]) ∧ ∃ nd', Dst w' g V dp tr nd' ∧ Trm V nd' ∧ w.grownBy w' (some g)
def TrimRel (w : World) (g V : Nat) (dp : Int) (tr : Bool) (n : Nat) (_ : Unit) (wr : World) : Prop :=
  Dst wr g V dp tr n ∧ w.grownBy wr (some g)

theorem Dst.nd1 {w : World} {g V nd : Nat} {dp : Int} {tr : Bool} (h : Dst w g V dp tr nd) (hV : Big V) : 1 ≤ nd := by
  obtain ⟨dc, _, _, h2, _⟩ := h
  refine Nat.pos_of_ne_zero fun e => ?_
  exact hV.dgt0 (h2 0 (by omega))

set_option maxHeartbeats 1000000 in
theorem trim_any (g V : Nat) (dp : Int) (tr : Bool) (nd : Nat) (w : World) (hV : Big V) (h : Dst w g V dp tr nd) :
    Calls Tryd.prog 94 #[.pointer (some ⟨g, 0, none⟩)] w (TrimPost w g V dp tr) := by
  have HV := Lib.hid hV; clear hV
  have H0 := Lib.hid h; clear h
  go_enter Tryd.func94, Tryd.ntmps94
  go_wp2
  refine wp_loop_x (fun _ : Unit => F94 g) (TrimRel w g V dp tr) nd () ⟨H0.out, World.grownBy.refl _ _⟩ (F94_at _ rfl ⟨rfl, trivial⟩) ?_
  intro n _ u wr hrel K hK
  obtain ⟨hD, hg⟩ := hrel
  have HK := Lib.hid hK; clear hK
  have HG := Lib.hid hg; clear hg
  have h1 := hD.nd1 HV.out
  obtain ⟨dc, hB, hR⟩ := hD
  obtain ⟨m, rfl⟩ : ∃ m, n = m + 1 := ⟨n - 1, by omega⟩
  have hm : m < 800 := by have := hR.2.2; have := N8_eq; omega
  obtain ⟨c0, c1, c2, c3⟩ := hB.cells
  have cm := hB.cell hm
  rw [hR.1 m (by omega)] at cm
  have f0 := hB.free 800
  rw [show ((m + 1 : Nat) : Int) = (m : Int) + 1 from rfl] at c0
  have HB := Lib.hid hB; clear hB
  have HR := Lib.hid hR; clear hR
  clear h1 c1 c2 c3
  have w1 : decide ((m : Int) + 1 > 0) = true := decide_eq_true (by omega)
  have w2 : IntKind.i64.wrap ((m : Int) + 1 - 1) = m := by rw [show (m : Int) + 1 - 1 = m by omega]; exact IntWalk.i64_in _ (by omega)
  have w3 : (m : Int) < 800 := by omega
  rw [F94_lit]
  by_cases hz : dgt V m = 0
  · have HZ := Lib.hid hz
    rw [hz] at cm
    clear hz
    go_wp2
    go_quiet (fail)
    go_wp2
    refine HK.out m () _ _ (by omega) ⟨?_, by exact gb_set (gb_drewN HG.out _) _ _⟩ (F94_at _ rfl ⟨rfl, trivial⟩)
    exact ⟨dc, by exact DB.setNd (by exact HB.out) m, fun i hi => HR.out.1 i (by omega), fun i hi => by
      by_cases e : i = m
      · subst e; exact HZ.out
      · exact HR.out.2.1 i (by omega), by have := HR.out.2.2; omega⟩
  · have w4 : (((48 + dgt V m : Nat) : Int) == 48) = false := beq_false_of_ne (by omega)
    have HZ := Lib.hid hz
    clear hz
    generalize 48 + dgt V m = c at cm w4
    go_wp2
    go_quiet (fail)
    go_wp2
    have w5 : ((m : Int) + 1 == 0) = false := beq_false_of_ne (by omega)
    go_wp2
    go_end0
    exact ⟨rfl, m + 1, ⟨dc, by exact HB.out, HR.out⟩, ⟨by omega, by exact HZ.out⟩, by exact gb_drewN HG.out _⟩

def F93 (g nd : Nat) (s : ByteArray) (i : Nat) : (Nat → Value) → Act := FG 32 [(0, .slice (some ⟨g, 0, none⟩) nd 800), (1, .string s), (5, .int .i64 i)]
theorem F93_lit (g nd : Nat) (s : ByteArray) (i : Nat) (u : Nat → Value) : F93 g nd  s  i u = { tmps := #[.slice (some ⟨g, 0, none⟩) nd 800, .string s, u 2, u 3, u 4, .int .i64 i, u 6, u 7, u 8, u 9, u 10, u 11, u 12, u 13, u 14, u 15, u 16, u 17, u 18, u 19, u 20, u 21, u 22, u 23, u 24, u 25, u 26, u 27, u 28, u 29, u 30, u 31], defers := [] } := by kernel_rfl
theorem F93_at (g nd : Nat) (s : ByteArray) (i : Nat) {L : List Value} (hl : L.length = 32) (hn : NmOk L [(0, .slice (some ⟨g, 0, none⟩) nd 800), (1, .string s), (5, .int .i64 i)]) : (F93 g nd  s  i fun k => (Act.mk L.toArray []).tmps.getD k undef) = { tmps := L.toArray, defers := [] } := FG_at hl hn

theorem retB {a b : Bool} (h : a = b) : Ending.returned (.bool a) = .returned (.bool b) := by rw [h]
theorem drewN_more {w wr : World} (h : ∃ q, wr = w.drewN q) (m : Nat) : ∃ q, wr.drewN m = w.drewN q := by
  obtain ⟨q, rfl⟩ := h
  exact ⟨q + m, by simp [World.drewN, Nat.add_assoc]⟩
def PltPost (V k : Nat) (w : World) (e : Ending) (w' : World) : Prop := e = .returned (.bool (decide (V < cK k))) ∧ ∃ q, w' = w.drewN q
def PltRel (V k nd : Nat) (s : ByteArray) (w : World) (n : Nat) (i : Nat) (wr : World) : Prop :=
  n = s.size - i ∧ i ≤ s.size ∧ i ≤ nd ∧ (∀ j, j < i → dgt V j = dgt (cK k) j) ∧ ∃ q, wr = w.drewN q

set_option maxHeartbeats 1000000 in
theorem prefix_any (g V k : Nat) (dp : Int) (tr : Bool) (nd : Nat) (s : ByteArray) (w : World) (hV : V < T8) (hk1 : 1 ≤ k) (hk2 : k ≤ 60) (h : Dst w g V dp tr nd)
    (hs : s.size = (cheat k).2.length) (hd : ∀ j (h : j < s.size), s[j].toNat = 48 + dgt (cK k) j) :
    Calls Tryd.prog 93 #[.slice (some ⟨g, 0, none⟩) nd 800, .string s] w (PltPost V k w) := by
  obtain ⟨dc, hB, hR⟩ := h
  have hl60 : s.size ≤ 60 := by rw [hs]; exact (cheat_ok hk1 hk2).len
  have HS := Lib.hid hs; clear hs
  have HD := Lib.hid hd; clear hd
  have HB := Lib.hid hB; clear hB
  have hnd : nd ≤ 800 := hR.2.2
  have HR := Lib.hid hR; clear hR
  have HV := Lib.hid hV; clear hV
  go_enter Tryd.func93, Tryd.ntmps93
  go_wp2
  refine wp_loop_x (F93 g nd s) (PltRel V k nd s w) s.size 0 ⟨by omega, by omega, by omega, fun j hj => absurd hj (by omega), 0, rfl⟩ (F93_at _ _ _ _ rfl ⟨rfl, rfl, rfl, trivial⟩) ?_
  intro n i u wr hrel K hK
  obtain ⟨hn, h1, h2, hq, hw⟩ := hrel
  have HW := Lib.hid hw; clear hw
  have HK := Lib.hid hK; clear hK
  have HN := Lib.hid hn; clear hn
  have HQ := Lib.hid hq; clear hq
  rw [F93_lit]
  by_cases hlt : i < s.size
  · by_cases hge : i < nd
    · have ci : wr.cell? ⟨g, i, none⟩ = some (.int .u8 (48 + dgt V i : Nat)) := by
        obtain ⟨q, hq⟩ := HW.out
        subst hq
        have : (w.drewN q).cell? ⟨g, i, none⟩ = some (.int .u8 (dc i)) := HB.out.cell (show i < 800 by omega)
        rw [HR.out.1 i hge] at this
        exact this
      obtain ⟨c, hc⟩ : ∃ c : Nat, 48 + dgt V i = c := ⟨_, rfl⟩
      obtain ⟨d, hdd⟩ : ∃ d : Nat, s[i].toNat = d := ⟨_, rfl⟩
      have hcd := HD.out i hlt
      rw [hdd] at hcd
      rw [hc] at ci
      have w1 : IntKind.i64.wrap ((i : Int) + 1) = (i : Int) + 1 := IntWalk.i64_in _ (by omega)
      have w2 : decide ((i : Int) ≥ nd) = false := decide_eq_false (by omega)
      have w3 : (i : Int) < 800 := by omega
      have w4 : (i : Int) < nd := by omega
      have w5 : (i : Int) < s.size := by omega
      by_cases he : c = d
      · have g1 : ((c : Int) != d) = false := by simp [he]
        have HE : Hid (dgt V i = dgt (cK k) i) := Lib.hid (by omega)
        clear he hcd hc
        go_wp2
        go_quiet (fail)
        go_wp2
        exact HK.out (s.size - (i + 1)) (i + 1) _ _ (by have := HN.out; omega) ⟨rfl, by omega, by omega, fun j hj => by
          by_cases e : j = i
          · subst e; exact HE.out
          · exact HQ.out j (by omega), drewN_more HW.out _⟩ (F93_at _ _ _ _ rfl ⟨rfl, rfl, rfl, trivial⟩)
      · have g1 : ((c : Int) != d) = true := by simpa using (show ¬ (c : Int) = d by omega)
        have hcd' : decide (V < cK k) = decide (c < d) := by
          by_cases hlt2 : c < d
          · rw [decide_eq_true hlt2, decide_eq_true (lt_of_dgt HV.out (cheat_ok hk1 hk2).ct HQ.out (by omega))]
          · rw [decide_eq_false hlt2, decide_eq_false]
            exact Nat.not_lt.2 (Nat.le_of_lt (lt_of_dgt (cheat_ok hk1 hk2).ct HV.out (fun j hj => (HQ.out j hj).symm) (by omega)))
        have HE := Lib.hid hcd'
        clear he hcd hc hcd'
        go_wp2
        go_quiet (fail)
        go_wp2
        go_quiet (fail)
        go_wp2
        go_ret
        exact ⟨retB HE.out.symm, drewN_more (drewN_more HW.out _) _⟩
    · have w2 : decide ((i : Int) ≥ nd) = true := decide_eq_true (by omega)
      have HX : Hid (V < cK k) := Lib.hid (cut_nd HV.out hk1 hk2 HQ.out (by rw [← HS.out]; exact hlt) (by omega) HR.out.2.1)
      go_wp2
      go_ret
      exact ⟨retB (decide_eq_true HX.out).symm, HW.out⟩
  · have HX : Hid (¬ V < cK k) := Lib.hid (cut_eq HV.out hk1 hk2 fun j hj => HQ.out j (by have := HS.out; omega))
    go_wp2
    go_ret
    exact ⟨retB (decide_eq_false HX.out).symm, HW.out⟩
end Go.Proofs.YtblphppdfiipfaaDoor
