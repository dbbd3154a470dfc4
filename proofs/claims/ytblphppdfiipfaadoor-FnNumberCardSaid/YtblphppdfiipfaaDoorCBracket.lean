/- The lexer counts brackets. Conditions: none. -/
import Derived.Test.YtblphppdfiipfaaDoorCState
import Derived.Deep.RegionLaw
namespace Go.Proofs.YtblphppdfiipfaaDoor
open Go.RowKit
set_option maxRecDepth 100000

theorem gbn_cell2 {w w' : World} (h : w.grownBy w' none) {a : Addr} {v : Value} (hc : w.cell? a = some v) : w'.cell? a = some v := by
  rw [World.cell?_of_block (h.block a.block (lt_cell' hc) (by simp))]
  exact hc
def BrPost (B b : Nat) (s : ByteArray) (w : World) (p : Nat) (op : Bool) (T : List Tok) (D : List Int) (n : Nat) (e : Ending) (w' : World) : Prop :=
  e = .returned (.tuple #[]) ∧ (∃ O', O'.length ≤ n + 2 ∧ LS B b s w' p op T D O') ∧ Below B w w'
theorem BrPost.pre {B b : Nat} {s : ByteArray} {w wx : World} {p : Nat} {op : Bool} {T : List Tok} {D : List Int} {n m : Nat} {e : Ending} {w' : World} (hb : Below B w wx) (hn : n ≤ m) (h : BrPost B b s wx p op T D n e w') : BrPost B b s w p op T D m e w' := by
  obtain ⟨h1, ⟨O, h2, h3⟩, h4⟩ := h
  exact ⟨h1, ⟨O, by omega, h3⟩, hb.trans h4⟩
def BrRel (B b : Nat) (s : ByteArray) (w : World) (p : Nat) (op : Bool) (T : List Tok) (D : List Int) (m : Nat) (_ : Unit) (wx : World) : Prop :=
  ∃ Os x y, Os.length ≤ m ∧ Os.length ≤ 400 ∧ LS B b s wx p op T D (Os ++ [(x, y)]) ∧ Below B w wx
def F31 (b : Nat) (ps : ByteArray) : (Nat → Value) → Act := FG 138 [(0, .pointer (some ⟨b, 0, none⟩)), (1, .string ps)]
theorem F31_lit (b : Nat) (ps : ByteArray) (u : Nat → Value) : F31 b  ps u = { tmps := #[.pointer (some ⟨b, 0, none⟩), .string ps, u 2, u 3, u 4, u 5, u 6, u 7, u 8, u 9, u 10, u 11, u 12, u 13, u 14, u 15, u 16, u 17, u 18, u 19, u 20, u 21, u 22, u 23, u 24, u 25, u 26, u 27, u 28, u 29, u 30, u 31, u 32, u 33, u 34, u 35, u 36, u 37, u 38, u 39, u 40, u 41, u 42, u 43, u 44, u 45, u 46, u 47, u 48, u 49, u 50, u 51, u 52, u 53, u 54, u 55, u 56, u 57, u 58, u 59, u 60, u 61, u 62, u 63, u 64, u 65, u 66, u 67, u 68, u 69, u 70, u 71, u 72, u 73, u 74, u 75, u 76, u 77, u 78, u 79, u 80, u 81, u 82, u 83, u 84, u 85, u 86, u 87, u 88, u 89, u 90, u 91, u 92, u 93, u 94, u 95, u 96, u 97, u 98, u 99, u 100, u 101, u 102, u 103, u 104, u 105, u 106, u 107, u 108, u 109, u 110, u 111, u 112, u 113, u 114, u 115, u 116, u 117, u 118, u 119, u 120, u 121, u 122, u 123, u 124, u 125, u 126, u 127, u 128, u 129, u 130, u 131, u 132, u 133, u 134, u 135, u 136, u 137], defers := [] } := by kernel_rfl
theorem F31_at (b : Nat) (ps : ByteArray) {L : List Value} (hl : L.length = 138) (hn : NmOk L [(0, .pointer (some ⟨b, 0, none⟩)), (1, .string ps)]) : (F31 b  ps fun k => (Act.mk L.toArray []).tmps.getD k undef) = { tmps := L.toArray, defers := [] } := FG_at hl hn
set_option maxHeartbeats 8000000 in
theorem bracket_any (B b : Nat) (s ps : ByteArray) (p : Nat) (op : Bool) (T : List Tok) (D : List Int) (O : List (Bool × Int)) (w0 : World) (hT : T.length ≤ 200) (hO0 : O.length ≤ 400) (h0 : LS B b s w0 p op T D O) :
    Calls Tryd.prog 31 #[.pointer (some ⟨b, 0, none⟩), .string ps] w0 (BrPost B b s w0 p op T D O.length) := by
  go_enter Tryd.func31, Tryd.ntmps31
  apply wp_seq
  refine wp_cut_x (fun _ : Unit => F31 b ps) (BrRel B b s w0 p op T D O.length) ?_ ?_
  · intro K hK
    have HK := Lib.hid hK; clear hK
    rcases List.eq_nil_or_concat O with rfl | ⟨ts, t, rfl⟩
    · obtain ⟨o, d, q, la, co, h⟩ := h0
      obtain ⟨c0, c1, c2, c3, c4, c5, c6, c7, c8⟩ := h.x.cells
      have f6 := h.x.free 6
      have hq : ∃ g cap, q = .slice g 0 cap := by
        rcases h.rq.2 with ⟨h1, _⟩ | ⟨g, cap, cur, h1, _⟩
        · exact ⟨_, _, h1⟩
        · exact ⟨_, _, h1⟩
      obtain ⟨g, cap, rfl⟩ := hq
      obtain ⟨i0, hi, hz0, hz1, hz2⟩ := info_parts info76
      obtain ⟨p1, p2, p3, p4, p5⟩ := LV.pushq h false 0
      have P1 := Lib.hid p1
      have P2 := Lib.hid p2
      have P3 := Lib.hid p3
      have P4 := Lib.hid p4
      have P5 := Lib.hid p5
      clear p1 p2 p3 p4 p5 h
      have HI := Lib.hid hi
      go_wp2_with (at_builtin; refine wpList_append_lies _ rfl _ _ _ rfl B 76 i0 _ 2 16 Tryd.underlying37 hi hz0 hz1 hz2 rfl (by omega) (.slice g 0 cap) 0 _ rfl P1.out ⟨w0.heap.size, 0, none⟩ 1 1 _ rfl rfl P2.out (by simp [Value.oneCell']) (by omega) (by unfold maxLen; omega) (by omega) P3.out (w0.heap.size + 1) (by simp) ?_; intro g2 cap2 w1 hown1 hgrow hat hlt; have HO1 := Lib.hid hown1; have HG1 := Lib.hid hgrow; have HA1 := Lib.hid hat; have hx6 := (P4.out _ hgrow).cells.2.2.2.2.2.2.1; have hf6 := (P4.out _ hgrow).free 6; clear hown1 hgrow hat hlt)
      obtain ⟨⟨V, hV, hL⟩, hB⟩ := P5.out _ _ _ HO1.out HG1.out HA1.out
      exact HK.out () _ _ ⟨[], false, 0, by simp, by simp, ⟨_, _, _, _, _, hL⟩, hB⟩ (F31_at _ _ rfl ⟨rfl, rfl, trivial⟩)
    · rw [List.concat_eq_append] at h0 hO0
      obtain ⟨o, d, q, la, co, h⟩ := h0
      obtain ⟨c0, c1, c2, c3, c4, c5, c6, c7, c8⟩ := h.x.cells
      obtain ⟨g, cap, rfl, hBg, hgl⟩ := h.rq.form (by simp)
      have HH := Lib.hid h
      simp only [List.length_append, List.length_singleton] at c6 hO0
      have g1 : (((ts.length + 1 : Nat) : Int) == 0) = false := beq_false_of_ne (by omega)
      clear h
      go_wp2
      exact HK.out () _ _ ⟨ts, t.1, t.2, by simp, by omega, ⟨_, _, _, _, _, HH.out⟩, Below.refl _ _⟩ (F31_at _ _ rfl ⟨rfl, rfl, trivial⟩)
  rintro _ u w ⟨Os, x, y, hOm, hO, h, hBW⟩
  have HBW := Lib.hid hBW; clear hBW
  have HOM := Lib.hid hOm; clear hOm
  rw [F31_lit]
  unfold Exit.then
  have HA := Lib.hid (asks_any B b s p op T D _ w hT h)
  obtain ⟨o, d, q, la, co, h⟩ := h
  obtain ⟨c0, c1, c2, c3, c4, c5, c6, c7, c8⟩ := h.x.cells
  have f6 := h.x.free 6
  have f7 := h.x.free 7
  have f8 := h.x.free 8
  obtain ⟨g, cap, rfl, hBg, hgl⟩ := h.rq.form (by simp)
  have k0 := h.rq.cells (g := g) rfl _ _ (bcells_at Os (x, y)).1
  have k1 := h.rq.cells (g := g) rfl _ _ (bcells_at Os (x, y)).2
  rw [add_zero_at] at k0 k1
  simp only at k0 k1
  have HH := Lib.hid h
  simp only [List.length_append, List.length_singleton] at c6
  obtain ⟨n, hn⟩ : ∃ n, Os.length = n := ⟨_, rfl⟩
  rw [hn] at c6 k0 k1 hO
  have hlw := lt_of_block HH.out.x
  have g1 : (((n + 1 : Nat) : Int) == 0) = false := beq_false_of_ne (by omega)
  have w1 : IntKind.i64.wrap (((n + 1 : Nat) : Int) - 1) = n := by rw [show ((n + 1 : Nat) : Int) - 1 = n by omega]; exact IntWalk.i64_in _ (by omega)
  have w2 : IntKind.i64.wrap (n : Int) = n := IntWalk.i64_in _ (by omega)
  have b1 : (0 : Int) ≤ n := by omega
  have b3 : (n : Int) < (n : Int) + 1 := by omega
  have HN := Lib.hid hn
  have hbw := HH.out.bw
  clear h hn
  by_cases a1 : ps.toList = [123]
  · have a1' : (ps.toList == [123]) = true := by rw [a1]; rfl
    obtain ⟨i0, hi, hz0, hz1, hz2⟩ := info_parts info76
    have HAD := Lib.hid (asks_any B b s p op T D (Os ++ [(x, y)]) w.drew hT ⟨_, _, _, _, _, HH.out.next (gb_drewN (World.grownBy.refl _ _) 1) HH.out.x⟩)
    have nb : w.heap.size ≠ b := by omega
    have HN1 : (Os ++ [(x, y)]).length = n + 1 := by simp [HN.out]
    clear a1 w1 w2 b1 b3
    skip
    go_wp2_with fail
    go_region_law (first
        | (refine step_append_lies _ (by rfl) _ _ _ (by rfl) B 76 i0 _ 2 16 Tryd.underlying37 hi hz0 hz1 hz2 rfl (by omega) (.slice (some ⟨g, 0, none⟩) (n + 1) cap) (n + 1) _ (by rfl) (by rw [← HN1]; exact (LV.pushq (HH.out.kept (w' := w2) hga) bb 0).1) ⟨w2.heap.size, 0, none⟩ 1 1 _ (by rfl) (by rfl) (LV.pushq (HH.out.kept (w' := w2) hga) bb 0).2.1 (by simp [Value.oneCell']) (by omega) (by unfold maxLen; omega) (by omega) (LV.pushq (HH.out.kept (w' := w2) hga) bb 0).2.2.1 (w2.heap.size + 1) (by simp) ?_; intro g2 cap2 w1 hown1 hgrow hat hlt; have hx6 := ((LV.pushq (HH.out.kept (w' := w2) hga) bb 0).2.2.2.1 _ hgrow).cells.2.2.2.2.2.2.1; have hf6 := ((LV.pushq (HH.out.kept (w' := w2) hga) bb 0).2.2.2.1 _ hgrow).free 6)
        | (go_simp; go_at_call 38; refine HAD.out.mono ?_; rintro e w2 ⟨bb, rfl, hga0⟩; have hga : w.grownBy w2 none := ⟨hga0.os, hga0.tape, hga0.output, hga0.size, hga0.block⟩; have hnb2 : b < w2.heap.size := (by have := hga.size; omega); have c62 := gbn_cell2 hga c6))
    all_goals
      have p5 := (LV.pushq (HH.out.kept (w' := w2) hga) bb 0).2.2.2.2
      rw [HN1] at p5
      obtain ⟨⟨V, hV, hL⟩, hB⟩ := p5 _ _ _ hown1 hgrow hat
      have HL := Lib.hid hL
      have HB := Lib.hid ((bel_grow (B := B) hga hbw (by simp)).trans hB)
      clear hL hB hV p5 hown1 hgrow hat
      go_wp2
      go_end0
      exact BrPost.pre (n := Os.length) HBW.out HOM.out ⟨rfl, ⟨_, by simp, _, _, _, _, _, HL.out⟩, HB.out⟩
  have a1' : (ps.toList == [123]) = false := by simpa using a1
  by_cases a2 : ps.toList = [40] ∨ ps.toList = [91]
  · have hq40 : ∃ z, (ps.toList == [40]) = z ∧ (z = false → (ps.toList == [91]) = true) := ⟨_, rfl, fun e => by
      rcases a2 with h | h
      · rw [h] at e; exact absurd e (by decide)
      · rw [h]; rfl⟩
    obtain ⟨z, hz40, hz91⟩ := hq40
    obtain ⟨i0, hi, hz0, hz1, hz2⟩ := info_parts info76
    obtain ⟨p1, p2, p3, p4, p5⟩ := LV.pushq HH.out true 0
    simp only [List.length_append, List.length_singleton, HN.out] at p1 p4 p5
    have P1 := Lib.hid p1
    have P2 := Lib.hid p2
    have P3 := Lib.hid p3
    have P4 := Lib.hid p4
    have P5 := Lib.hid p5
    clear p1 p2 p3 p4 p5 a1 a2
    have HI := Lib.hid hi
    cases z
    · have hz91 := hz91 rfl
      skip
      go_wp2_with (at_builtin; refine wpList_append_lies _ rfl _ _ _ rfl B 76 i0 _ 2 16 Tryd.underlying37 hi hz0 hz1 hz2 rfl (by omega) (.slice (some ⟨g, 0, none⟩) (n + 1) cap) (n + 1) _ rfl P1.out ⟨w.heap.size, 0, none⟩ 1 1 _ rfl rfl P2.out (by simp [Value.oneCell']) (by omega) (by unfold maxLen; omega) (by omega) P3.out (w.heap.size + 1) (by simp) ?_; intro g2 cap2 w1 hown1 hgrow hat hlt; have HO1 := Lib.hid hown1; have HG1 := Lib.hid hgrow; have HA1 := Lib.hid hat; have hx6 := (P4.out _ hgrow).cells.2.2.2.2.2.2.1; have hf6 := (P4.out _ hgrow).free 6; clear hown1 hgrow hat hlt)
      go_end0
      obtain ⟨⟨V, hV, hL⟩, hB⟩ := P5.out _ _ _ HO1.out HG1.out HA1.out
      exact BrPost.pre HBW.out HOM.out ⟨rfl, ⟨_, by simp, _, _, _, _, _, hL⟩, hB⟩
    · clear hz91
      skip
      go_wp2_with (at_builtin; refine wpList_append_lies _ rfl _ _ _ rfl B 76 i0 _ 2 16 Tryd.underlying37 hi hz0 hz1 hz2 rfl (by omega) (.slice (some ⟨g, 0, none⟩) (n + 1) cap) (n + 1) _ rfl P1.out ⟨w.heap.size, 0, none⟩ 1 1 _ rfl rfl P2.out (by simp [Value.oneCell']) (by omega) (by unfold maxLen; omega) (by omega) P3.out (w.heap.size + 1) (by simp) ?_; intro g2 cap2 w1 hown1 hgrow hat hlt; have HO1 := Lib.hid hown1; have HG1 := Lib.hid hgrow; have HA1 := Lib.hid hat; have hx6 := (P4.out _ hgrow).cells.2.2.2.2.2.2.1; have hf6 := (P4.out _ hgrow).free 6; clear hown1 hgrow hat hlt)
      go_end0
      obtain ⟨⟨V, hV, hL⟩, hB⟩ := P5.out _ _ _ HO1.out HG1.out HA1.out
      exact BrPost.pre HBW.out HOM.out ⟨rfl, ⟨_, by simp, _, _, _, _, _, hL⟩, hB⟩
  have a40 : (ps.toList == [40]) = false := by simpa using fun h => a2 (.inl h)
  have a91 : (ps.toList == [91]) = false := by simpa using fun h => a2 (.inr h)
  have hcap := own_cap HH.out.rq
  have hcap1 : n + 1 ≤ cap := by have := hcap.1; simp at this; rw [HN.out] at this; exact this
  have hcap2 : (n : Int) ≤ cap := by omega
  have hfg := own_free HH.out.rq (g := g) rfl (n * 2 + 1)
  have hgb : g ≠ b := fun e => HH.out.ap.qb (by simp [Value.ownBlock, e])
  have hgb2 : b ≠ g := fun e => hgb e.symm
  have hLV : LV B b s w p op T D (Os ++ [(x, y)]) o d (.slice (some ⟨g, 0, none⟩) (Os.length + 1) cap) la co := by
    have := HH.out; simp only [List.length_append, List.length_singleton] at this; exact this
  have HLV := Lib.hid hLV
  clear hcap a2 hLV
  by_cases a3 : ps.toList = [125] ∨ ps.toList = [41] ∨ ps.toList = [93]
  · have key : True := trivial
    · clear key
      have hx7 : LV B b s (w.setCell ⟨b, 7, none⟩ (.bool x)) p op T D (Os ++ [(x, y)]) o d (.slice (some ⟨g, 0, none⟩) (Os.length + 1) cap) x co := HLV.out.next (gb_set (World.grownBy.refl _ _) _ _) (LX.set7 HLV.out.x x)
      have hB7 : Below B w (w.setCell ⟨b, 7, none⟩ (.bool x)) := (Below.refl B w).setCell HLV.out.bb _
      have hpop := LV.popq hx7
      rw [HN.out] at hpop
      have HPOP := Lib.hid hpop
      have HX7 := Lib.hid hx7
      have HB7 := Lib.hid hB7
      have hnn : decide ((n : Int) > 0) = decide (0 < n) := by rw [Bool.eq_iff_iff]; simp
      clear hpop hx7 hB7
      rcases a3 with a3 | a3 | a3
      · have z1 : (ps.toList == [125]) = true := by rw [a3]; rfl
        clear a3
        by_cases hn0 : 0 < n
        · skip
          go_wp2_with fail
          go_end0
          exact BrPost.pre HBW.out HOM.out ⟨rfl, ⟨Os, by omega, _, _, _, _, _, HPOP.out⟩, HB7.out.setCell HLV.out.bb _⟩
        · skip
          go_wp2_with fail
          go_end0
          exact BrPost.pre HBW.out HOM.out ⟨rfl, ⟨Os ++ [(x, y)], by simp, _, _, _, _, _, HX7.out⟩, HB7.out⟩
      · have z1 : (ps.toList == [125]) = false := by rw [a3]; rfl
        have z2 : (ps.toList == [41]) = true := by rw [a3]; rfl
        clear a3
        by_cases hn0 : 0 < n
        · skip
          go_wp2_with fail
          go_end0
          exact BrPost.pre HBW.out HOM.out ⟨rfl, ⟨Os, by omega, _, _, _, _, _, HPOP.out⟩, HB7.out.setCell HLV.out.bb _⟩
        · skip
          go_wp2_with fail
          go_end0
          exact BrPost.pre HBW.out HOM.out ⟨rfl, ⟨Os ++ [(x, y)], by simp, _, _, _, _, _, HX7.out⟩, HB7.out⟩
      · have z1 : (ps.toList == [125]) = false := by rw [a3]; rfl
        have z2 : (ps.toList == [41]) = false := by rw [a3]; rfl
        have z3 : (ps.toList == [93]) = true := by rw [a3]; rfl
        clear a3
        by_cases hn0 : 0 < n
        · skip
          go_wp2_with fail
          go_end0
          exact BrPost.pre HBW.out HOM.out ⟨rfl, ⟨Os, by omega, _, _, _, _, _, HPOP.out⟩, HB7.out.setCell HLV.out.bb _⟩
        · skip
          go_wp2_with fail
          go_end0
          exact BrPost.pre HBW.out HOM.out ⟨rfl, ⟨Os ++ [(x, y)], by simp, _, _, _, _, _, HX7.out⟩, HB7.out⟩
  have z1 : (ps.toList == [125]) = false := by simpa using fun h => a3 (.inl h)
  have z2 : (ps.toList == [41]) = false := by simpa using fun h => a3 (.inr (.inl h))
  have z3 : (ps.toList == [93]) = false := by simpa using fun h => a3 (.inr (.inr h))
  clear a3
  by_cases a4 : ps.toList = [63]
  · have z4 : (ps.toList == [63]) = true := by rw [a4]; rfl
    clear a4
    skip
    go_wp2_with fail
    go_end0
    have hS := LV.setq HLV.out (wrap64 (y + 1))
    rw [HN.out] at hS
    exact BrPost.pre HBW.out HOM.out ⟨rfl, ⟨Os ++ [(x, wrap64 (y + 1))], by simp, _, _, _, _, _, hS⟩, (Below.refl B w).setCell hBg _⟩
  have z4 : (ps.toList == [63]) = false := by simpa using a4
  clear a4
  by_cases a5 : ps.toList = [58]
  · have z5 : (ps.toList == [58]) = true := by rw [a5]; rfl
    clear a5
    have fin8 : ∀ v : Bool, LV B b s (w.setCell ⟨b, 8, none⟩ (.bool v)) p op T D (Os ++ [(x, y)]) o d (.slice (some ⟨g, 0, none⟩) (Os.length + 1) cap) la v := fun v => HLV.out.next (gb_set (World.grownBy.refl _ _) _ _) (LX.set8 HLV.out.x v)
    have F8 := Lib.hid fin8
    clear fin8
    by_cases hy : 0 < y
    all_goals cases x
    all_goals
      skip
      go_wp2_with fail
      go_end0
      first
        | exact BrPost.pre HBW.out HOM.out ⟨rfl, ⟨Os ++ [(_, y)], by simp, _, _, _, _, _, F8.out _⟩, (Below.refl B w).setCell HLV.out.bb _⟩
        | (have hS := LV.setq (F8.out true) (wrap64 (y - 1))
           rw [HN.out] at hS
           exact BrPost.pre HBW.out HOM.out ⟨rfl, ⟨Os ++ [(_, wrap64 (y - 1))], by simp, _, _, _, _, _, hS⟩, ((Below.refl B w).setCell HLV.out.bb _).setCell hBg _⟩)
        | trace_state
  have z5 : (ps.toList == [58]) = false := by simpa using a5
  clear a5
  skip
  go_wp2_with fail
  go_end0
  exact BrPost.pre HBW.out HOM.out ⟨rfl, ⟨Os ++ [(x, y)], by simp, _, _, _, _, _, HLV.out⟩, Below.refl B w⟩
end Go.Proofs.YtblphppdfiipfaaDoor
