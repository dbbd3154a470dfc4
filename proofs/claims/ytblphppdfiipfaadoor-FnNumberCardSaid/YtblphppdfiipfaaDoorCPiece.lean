/- The lexer takes a piece of a template. Conditions: none. -/
import Derived.Test.YtblphppdfiipfaaDoorCWord
namespace Go.Proofs.YtblphppdfiipfaaDoor
open Go.RowKit
set_option maxRecDepth 100000

theorem ob_same {B : Nat} {w w' : World} {v : Value} {l : List UInt8} (h : OB B w v l) (hs : ∀ k, v.ownBlock = some k → k < w.heap.size → w'.heap[k]? = w.heap[k]?) : OB B w' v l := by
  refine ⟨h.1, ?_⟩
  rcases h.2 with ⟨h1, h2⟩ | ⟨g, cap, cur, rfl, hB, hb, hn, hm, hc, ht⟩
  · exact .inl ⟨h1, h2⟩
  · have hlt : g < w.heap.size := by
      rcases Nat.lt_or_ge g w.heap.size with h1 | h1
      · exact h1
      · rw [Array.getElem?_eq_none h1] at hb; exact absurd hb (by simp)
    exact .inr ⟨g, cap, cur, rfl, hB, (hs g rfl hlt).trans hb, hn, hm, hc, ht⟩
theorem ob_lt {B : Nat} {w : World} {v : Value} {l : List UInt8} (h : OB B w v l) {k : Nat} (hk : v.ownBlock = some k) : k < w.heap.size := (World.ownsRow.lt h k hk).2
theorem pushd_at {B b : Nat} {s : ByteArray} {w : World} {p : Nat} {op : Bool} {T : List Tok} {D : List Int} {O : List (Bool × Int)} {o d q : Value} {la co : Bool}
    (h : LV B b s w p op T D O o d q la co) (y : Int) {n : Nat} (hn : w.heap.size = n) :
    (w.alloc (.cells #[.int .i64 y] 3)).ownsRow B 3 1 d D.length (dcs D) ∧
    (∀ j u, [.int .i64 y][j]? = some u → (w.alloc (.cells #[.int .i64 y] 3)).cell? ((⟨n, 0, none⟩ : Addr).add j) = some u) ∧ B ≤ (w.alloc (.cells #[.int .i64 y] 3)).heap.size ∧
    (∀ w1, (w.alloc (.cells #[.int .i64 y] 3)).grownBy w1 d.ownBlock → LX w1 b s p o d op q la co) ∧
    (∀ g2 cap2 w1, w1.ownsRow B 3 1 (.slice (some ⟨g2, 0, none⟩) (D.length + 1) cap2) (D.length + 1) (dcs D ++ [.int .i64 y]) → (w.alloc (.cells #[.int .i64 y] 3)).grownBy w1 d.ownBlock → (d.ownBlock = some g2 ∨ g2 = n + 1) →
      (∃ V, V = .slice (some ⟨g2, 0, none⟩) (D.length + 1) cap2 ∧ LV B b s (w1.setCell ⟨b, 3, none⟩ (.slice (some ⟨g2, 0, none⟩) (D.length + 1) cap2)) p op T (D ++ [y]) O o V q la co) ∧ Below B w (w1.setCell ⟨b, 3, none⟩ (.slice (some ⟨g2, 0, none⟩) (D.length + 1) cap2))) := by
  subst hn; exact LV.pushd h y
theorem pc_deep {w0 : World} {b : Nat} {s : ByteArray} {i : Nat} {o d : Value} {op : Bool} {q : Value} {la co : Bool} {v : Value} {l : List UInt8} {W w1 : World} {x : Obj}
    (h : OX w0 b s i o d op q la co v l W) (hd : ∀ k, d.ownBlock = some k → k < w0.heap.size) (hg : (W.alloc x).grownBy w1 d.ownBlock) (u : Value) : OB w0.heap.size (w1.setCell ⟨b, 3, none⟩ u) v l :=
  ob_same h.ob fun k hk hlt => by
    have hge := h.ob.ge hk
    have hb := h.hb
    rw [Below.heap_setCell w1 _ u k (show k ≠ b by omega), hg.block k (by simp; omega) (fun e => by have := hd k e.symm; omega)]
    exact Below.heap_alloc W x k hlt
theorem kp_ob {B0 b : Nat} {q v : Value} {l : List UInt8} {w1 w2 : World} (h : OB B0 w1 v l) (hb : b < B0) (hq : ∀ k, q.ownBlock = some k → k < B0) (hK : Kp b q w1 w2) : OB B0 w2 v l :=
  ob_same h fun k hk hlt => hK k hlt (fun e => by have := h.ge hk; omega) (fun e => by have := h.ge hk; have := hq k e; omega)
def PcSt (B b : Nat) (s : ByteArray) (w : World) (i : Nat) (op : Bool) (T : List Tok) (D : List Int) (O : List (Bool × Int)) (v : Value) (l : List UInt8) (W : World) : Prop :=
  LS B b s W i op T D O ∧ Below B w W ∧ OB w.heap.size W v l
def F21 (b : Nat) (hd z : Bool) (v : Value) : (Nat → Value) → Act := FG 166 [(0, .pointer (some ⟨b, 0, none⟩)), (1, .bool hd), (2, .bool z), (6, v)]
theorem F21_lit (b : Nat) (hd z : Bool) (v : Value) (u : Nat → Value) : F21 b  hd z  v u = { tmps := #[.pointer (some ⟨b, 0, none⟩), .bool hd, .bool z, u 3, u 4, u 5, v, u 7, u 8, u 9, u 10, u 11, u 12, u 13, u 14, u 15, u 16, u 17, u 18, u 19, u 20, u 21, u 22, u 23, u 24, u 25, u 26, u 27, u 28, u 29, u 30, u 31, u 32, u 33, u 34, u 35, u 36, u 37, u 38, u 39, u 40, u 41, u 42, u 43, u 44, u 45, u 46, u 47, u 48, u 49, u 50, u 51, u 52, u 53, u 54, u 55, u 56, u 57, u 58, u 59, u 60, u 61, u 62, u 63, u 64, u 65, u 66, u 67, u 68, u 69, u 70, u 71, u 72, u 73, u 74, u 75, u 76, u 77, u 78, u 79, u 80, u 81, u 82, u 83, u 84, u 85, u 86, u 87, u 88, u 89, u 90, u 91, u 92, u 93, u 94, u 95, u 96, u 97, u 98, u 99, u 100, u 101, u 102, u 103, u 104, u 105, u 106, u 107, u 108, u 109, u 110, u 111, u 112, u 113, u 114, u 115, u 116, u 117, u 118, u 119, u 120, u 121, u 122, u 123, u 124, u 125, u 126, u 127, u 128, u 129, u 130, u 131, u 132, u 133, u 134, u 135, u 136, u 137, u 138, u 139, u 140, u 141, u 142, u 143, u 144, u 145, u 146, u 147, u 148, u 149, u 150, u 151, u 152, u 153, u 154, u 155, u 156, u 157, u 158, u 159, u 160, u 161, u 162, u 163, u 164, u 165], defers := [] } := by kernel_rfl
theorem F21_at (b : Nat) (hd z : Bool) (v : Value) {L : List Value} (hl : L.length = 166) (hn : NmOk L [(0, .pointer (some ⟨b, 0, none⟩)), (1, .bool hd), (2, .bool z), (6, v)]) : (F21 b  hd z  v fun k => (Act.mk L.toArray []).tmps.getD k undef) = { tmps := L.toArray, defers := [] } := FG_at hl hn
def PcRel (w0 : World) (b : Nat) (s : ByteArray) (p : Nat) (o d : Value) (op : Bool) (q : Value) (la co : Bool) (n : Nat) (v : Value) (wr : World) : Prop :=
  ∃ (i : Nat) (l : List UInt8), n = s.size - i ∧ p ≤ i ∧ i ≤ s.size ∧ l.length ≤ 4 * i ∧ OX w0 b s i o d op q la co v l wr

set_option maxHeartbeats 8000000 in
theorem piece_any (B : Nat) (T : World → Prop) (hT : ∀ w w' : World, Below B w w' → T w → T w') (hTB : ∀ w, T w → B ≤ w.heap.size) (hD : DecSaid T) (hU : PuSaid T) (b : Nat) (s : ByteArray) (p : Nat) (op : Bool) (hd z : Bool) (Ts : List Tok) (D : List Int) (O : List (Bool × Int)) (w : World) (hs : s.size ≤ 100) (hp : p ≤ s.size)
    (hTs : Ts.length ≤ 200) (hDs : D.length ≤ 200) (hOs : O.length ≤ 400) (h : LS B b s w p op Ts D O) (hw : T w) :
    Calls Tryd.prog 21 #[.pointer (some ⟨b, 0, none⟩), .bool hd, .bool z] w (TokPost B b s w p Ts D O) := by
  have hT' : ∀ w w' : World, Below w.heap.size w w' → T w → T w' := fun w w' h hw => hT _ _ (h.mono (hTB w hw)) hw
  obtain ⟨o, d, q, la, co, h⟩ := h
  have hBb := h.bb
  have hlb := lt_of_block h.x
  have HH := Lib.hid h; clear h
  have HTW := Lib.hid hw; clear hw
  have HLB := Lib.hid hlb; clear hlb
  go_enter Tryd.func21, Tryd.ntmps21
  go_wp2
  refine wp_loop_x (fun v : Value => F21 b hd z v) (PcRel w b s p o d op q la co) (s.size - p) (.slice none 0 0) ⟨p, [], rfl, by omega, by omega, by simp, HLB.out, World.grownBy.refl _ _, HH.out.x, OB.nil _ _⟩ (F21_at _ _ _ _ rfl ⟨rfl, rfl, rfl, rfl, trivial⟩) ?_
  rintro n v u wr ⟨i, l, hn, hpi, his, hll, hR⟩ K hK
  have HN := Lib.hid hn; clear hn
  have HK := Lib.hid hK; clear hK
  have HLL := Lib.hid hll; clear hll
  have HTR : Hid (T wr) := Lib.hid (hT _ _ (gb_below hR.g hBb (hTB _ HTW.out)) HTW.out)
  obtain ⟨c0, c1, c2, _, c4, c5, c6, _, _⟩ := hR.x.cells
  have f1 := hR.x.free 1
  have f2 := hR.x.free 2
  have f4 := hR.x.free 4
  have HR := Lib.hid hR; clear hR
  rw [F21_lit]
  have hfin : ∀ m, TokPost B b s w p Ts D O (.returned (.tuple #[])) ((wr.drewN m).setCell ⟨b, 4, none⟩ (.bool true)) := fun m =>
    ⟨rfl, i, true, Ts, D, O, ⟨_, _, _, _, _, HH.out.next (gb_set (gb_drewN HR.out.g m) 4 (.bool true)) (LX.set4 (HR.out.drewN m).x true)⟩, gb_below (gb_set (gb_drewN HR.out.g m) 4 (.bool true)) hBb HH.out.bw, .inr rfl, by omega, his, .inl ⟨rfl, rfl⟩, by omega, by omega⟩
  have HFIN := Lib.hid hfin; clear hfin
  by_cases hlt : i < s.size
  · have g1 : decide ((i : Int) < s.size) = true := decide_eq_true (by omega)
    have w1 : (i : Int) < s.size := by omega
    by_cases k96 : (s[i].toNat : Int) = 96
    · have e96 : ((s[i].toNat : Int) == 96) = true := by simpa using k96
      clear k96
      have u1 : IntKind.i64.wrap ((i : Int) + 1) = i + 1 := IntWalk.i64_in _ (by omega)
      have HX1 : Hid (∀ m, OX w b s (i + 1 : Nat) o d op q la co v l ((wr.drewN m).setCell ⟨b, 1, none⟩ (.int .i64 ((i : Int) + 1)))) := Lib.hid fun m => (HR.out.drewN m).step (gb_set (World.grownBy.refl _ _) _ _) (LX.set1 (HR.out.drewN m).x _)
      by_cases hpop : hd = false ∧ 1 < O.length
      · obtain ⟨rfl, hO1⟩ := hpop
        obtain ⟨Os, z0, rfl⟩ : ∃ Os z0, O = Os ++ [z0] := by
          rcases List.eq_nil_or_concat O with rfl | ⟨a, b, rfl⟩
          · exact absurd hO1 (by simp)
          · exact ⟨a, b, by simp⟩
        obtain ⟨g, cap, rfl, hBg, hgl⟩ := HH.out.rq.form (by simp)
        obtain ⟨m, hm⟩ : ∃ m, Os.length = m := ⟨_, rfl⟩
        simp only [List.length_append, List.length_singleton, hm] at c6 hO1 HR HX1 HK hOs
        have hcap := own_cap HH.out.rq
        simp only [List.length_append, List.length_singleton, hm] at hcap
        have HM := Lib.hid hm
        clear hm
        have v1 : decide (((m + 1 : Nat) : Int) > 1) = true := decide_eq_true (by omega)
        have v2 : IntKind.i64.wrap (((m + 1 : Nat) : Int) - 1) = m := by rw [show ((m + 1 : Nat) : Int) - 1 = m by omega]; exact IntWalk.i64_in _ (by omega)
        have v3 : (0 : Int) ≤ m := by omega
        have v4 : (m : Int) ≤ cap := by omega
        have v5 : m ≤ cap := by omega
        have f6 := HR.out.x.free 6
        have hQ : ∀ k, PcSt B b s w (i + 1) op Ts D Os v l (((wr.drewN k).setCell ⟨b, 1, none⟩ (.int .i64 ((i : Int) + 1))).setCell ⟨b, 6, none⟩ (.slice (some ⟨g, 0, none⟩) m cap)) := fun k => by
          have hA := HH.out
          simp only [List.length_append, List.length_singleton, HM.out] at hA
          have hA2 := hA.next (HX1.out k).g (HX1.out k).x
          have hPop := LV.popq (by rw [HM.out]; exact hA2)
          rw [HM.out] at hPop
          have hg6 := gb_set (HX1.out k).g 6 (.slice (some ⟨g, 0, none⟩) m cap)
          exact ⟨⟨_, _, _, _, _, hPop⟩, gb_below hg6 hBb HH.out.bw, (HX1.out k).ob.kept HLB.out (gb_set (World.grownBy.refl _ _) 6 _)⟩
        have HQ := Lib.hid hQ
        clear hQ
        go_wp2_with fail
        go_quiet (fail)
        go_wp2_with fail
        go_quiet (fail)
        go_wp2_with fail
        refine wp_at_world (PcSt B b s w (i + 1) op Ts D Os v l) (HQ.out _) ?_
        rintro W ⟨⟨o1, d1, q1, la1, co1, hL⟩, hBW, hOB⟩
        clear c0 c1 c2 c4 c5 c6 f1 f2 f4 f6
        have hV := hL.kept (gb_drewN (World.grownBy.refl W none) 1)
        obtain ⟨c0, c1, c2, _, c4, c5, _, _, _⟩ := hL.x.cells
        have f2 := hL.x.free 2
        have hcv : (convert 33 9 v).run Tryd.prog W.drew = .ok (.string ⟨l.toArray⟩) W.drew := OB.conv (w := W.drew) hOB
        have hnb : b < W.heap.size := lt_of_block hL.x
        obtain ⟨j0, hj, hy0, hy1, hy2⟩ := info_parts info31
        have HJ := Lib.hid hj
        obtain ⟨tok, htok⟩ : ∃ tok : Tok, tok = ⟨5, ⟨l.toArray⟩, 0, z, false, true, false, 0, 0⟩ := ⟨_, rfl⟩
        obtain ⟨p1, p2, p3, p4, p5⟩ := LV.pusho hV tok
        rw [htok] at p1 p2 p3 p4 p5
        have R1 := Lib.hid p1
        have R2 := Lib.hid p2
        have R3 := Lib.hid p3
        have R4 := Lib.hid p4
        have R5 := Lib.hid p5
        have HBW := Lib.hid hBW
        have HWB := Lib.hid hL.bw
        clear p1 p2 p3 p4 p5 hV hL hOB hBW
        go_region_law (refine step_append_lies _ (by rfl) _ _ _ (by rfl) B 31 j0 _ 9 56 Tryd.underlying27 hj hy0 hy1 hy2 rfl (by omega) o1 Ts.length _ (by rfl) R1.out ⟨W.heap.size, 0, none⟩ 1 1 _ (by rfl) (by rfl) R2.out (by simp [Value.oneCell']) (by omega) (by unfold maxLen; omega) (by omega) R3.out (W.heap.size + 1) (by simp) ?_; intro g3 cap3 w3 hown3 hgrow3 hat3 hlt3; have HO3 := Lib.hid hown3; have HG3 := Lib.hid hgrow3; have HA3 := Lib.hid hat3; have hx2 := (R4.out _ hgrow3).cells.2.2.1; have hf2 := (R4.out _ hgrow3).free 2; clear hown3 hgrow3 hat3)
        all_goals
          go_wp2
          go_end0
          obtain ⟨⟨V3, hV3, hL3⟩, hB3⟩ := R5.out _ _ _ HO3.out HG3.out HA3.out
          exact ⟨rfl, (i + 1), op, Ts ++ [⟨5, ⟨l.toArray⟩, 0, z, false, true, false, 0, 0⟩], D, Os, ⟨_, _, _, _, _, hL3⟩, (HBW.out.trans (bel_drewN B W 1)).trans hB3, .inl (by omega), by omega, by omega, .inr ⟨_, rfl, by show (5 : Int) ≠ 2; decide⟩, by simp; omega, by omega⟩
      · have hg2 : ∃ y, (hd = true ∨ decide ((O.length : Int) > 1) = y) ∧ (hd = true ∨ y = false) := by
          cases hd
          · exact ⟨_, .inr rfl, .inr (decide_eq_false (by have := Nat.not_lt.1 fun h => hpop ⟨rfl, h⟩; omega))⟩
          · exact ⟨false, .inl rfl, .inl rfl⟩
        have hqf : ∃ g cap, q = .slice g O.length cap := by
          rcases HH.out.rq.2 with ⟨h1, h2⟩ | ⟨g, cap, cur, h1, _⟩
          · exact ⟨_, _, by rw [h1, h2]⟩
          · exact ⟨_, _, h1⟩
        obtain ⟨g, cap, rfl⟩ := hqf
        clear hpop
        obtain ⟨y, hy, hy2⟩ := hg2
        cases hd
        · have hy : decide ((O.length : Int) > 1) = y := by simpa using hy
          obtain rfl : y = false := by simpa using hy2
          go_wp2_with fail
          go_quiet (fail)
          go_wp2_with fail
          go_quiet (fail)
          go_wp2_with fail
          refine wp_at_world (PcSt B b s w (i + 1) op Ts D O v l) ⟨⟨_, _, _, _, _, HH.out.next (HX1.out _).g (HX1.out _).x⟩, gb_below (HX1.out _).g hBb HH.out.bw, (HX1.out _).ob⟩ ?_
          rintro W ⟨⟨o1, d1, q1, la1, co1, hL⟩, hBW, hOB⟩
          clear c0 c1 c2 c4 c5 c6 f1 f2 f4
          have hV := hL.kept (gb_drewN (World.grownBy.refl W none) 1)
          obtain ⟨c0, c1, c2, _, c4, c5, _, _, _⟩ := hL.x.cells
          have f2 := hL.x.free 2
          have hcv : (convert 33 9 v).run Tryd.prog W.drew = .ok (.string ⟨l.toArray⟩) W.drew := OB.conv (w := W.drew) hOB
          have hnb : b < W.heap.size := lt_of_block hL.x
          obtain ⟨j0, hj, hy0, hy1, hy2⟩ := info_parts info31
          have HJ := Lib.hid hj
          obtain ⟨tok, htok⟩ : ∃ tok : Tok, tok = ⟨5, ⟨l.toArray⟩, 0, z, false, true, false, 0, 0⟩ := ⟨_, rfl⟩
          obtain ⟨p1, p2, p3, p4, p5⟩ := LV.pusho hV tok
          rw [htok] at p1 p2 p3 p4 p5
          have R1 := Lib.hid p1
          have R2 := Lib.hid p2
          have R3 := Lib.hid p3
          have R4 := Lib.hid p4
          have R5 := Lib.hid p5
          have HBW := Lib.hid hBW
          have HWB := Lib.hid hL.bw
          clear p1 p2 p3 p4 p5 hV hL hOB hBW
          go_region_law (refine step_append_lies _ (by rfl) _ _ _ (by rfl) B 31 j0 _ 9 56 Tryd.underlying27 hj hy0 hy1 hy2 rfl (by omega) o1 Ts.length _ (by rfl) R1.out ⟨W.heap.size, 0, none⟩ 1 1 _ (by rfl) (by rfl) R2.out (by simp [Value.oneCell']) (by omega) (by unfold maxLen; omega) (by omega) R3.out (W.heap.size + 1) (by simp) ?_; intro g3 cap3 w3 hown3 hgrow3 hat3 hlt3; have HO3 := Lib.hid hown3; have HG3 := Lib.hid hgrow3; have HA3 := Lib.hid hat3; have hx2 := (R4.out _ hgrow3).cells.2.2.1; have hf2 := (R4.out _ hgrow3).free 2; clear hown3 hgrow3 hat3)
          all_goals
            go_wp2
            go_end0
            obtain ⟨⟨V3, hV3, hL3⟩, hB3⟩ := R5.out _ _ _ HO3.out HG3.out HA3.out
            exact ⟨rfl, (i + 1), op, Ts ++ [⟨5, ⟨l.toArray⟩, 0, z, false, true, false, 0, 0⟩], D, O, ⟨_, _, _, _, _, hL3⟩, (HBW.out.trans (bel_drewN B W 1)).trans hB3, .inl (by omega), by omega, by omega, .inr ⟨_, rfl, by show (5 : Int) ≠ 2; decide⟩, by omega, by omega⟩
        · clear hy hy2
          go_wp2_with fail
          go_quiet (fail)
          go_wp2_with fail
          go_quiet (fail)
          go_wp2_with fail
          refine wp_at_world (PcSt B b s w (i + 1) op Ts D O v l) ⟨⟨_, _, _, _, _, HH.out.next (HX1.out _).g (HX1.out _).x⟩, gb_below (HX1.out _).g hBb HH.out.bw, (HX1.out _).ob⟩ ?_
          rintro W ⟨⟨o1, d1, q1, la1, co1, hL⟩, hBW, hOB⟩
          clear c0 c1 c2 c4 c5 c6 f1 f2 f4
          have hV := hL.kept (gb_drewN (World.grownBy.refl W none) 1)
          obtain ⟨c0, c1, c2, _, c4, c5, _, _, _⟩ := hL.x.cells
          have f2 := hL.x.free 2
          have hcv : (convert 33 9 v).run Tryd.prog W.drew = .ok (.string ⟨l.toArray⟩) W.drew := OB.conv (w := W.drew) hOB
          have hnb : b < W.heap.size := lt_of_block hL.x
          obtain ⟨j0, hj, hy0, hy1, hy2⟩ := info_parts info31
          have HJ := Lib.hid hj
          obtain ⟨tok, htok⟩ : ∃ tok : Tok, tok = ⟨5, ⟨l.toArray⟩, 0, z, true, true, false, 0, 0⟩ := ⟨_, rfl⟩
          obtain ⟨p1, p2, p3, p4, p5⟩ := LV.pusho hV tok
          rw [htok] at p1 p2 p3 p4 p5
          have R1 := Lib.hid p1
          have R2 := Lib.hid p2
          have R3 := Lib.hid p3
          have R4 := Lib.hid p4
          have R5 := Lib.hid p5
          have HBW := Lib.hid hBW
          have HWB := Lib.hid hL.bw
          clear p1 p2 p3 p4 p5 hV hL hOB hBW
          go_region_law (refine step_append_lies _ (by rfl) _ _ _ (by rfl) B 31 j0 _ 9 56 Tryd.underlying27 hj hy0 hy1 hy2 rfl (by omega) o1 Ts.length _ (by rfl) R1.out ⟨W.heap.size, 0, none⟩ 1 1 _ (by rfl) (by rfl) R2.out (by simp [Value.oneCell']) (by omega) (by unfold maxLen; omega) (by omega) R3.out (W.heap.size + 1) (by simp) ?_; intro g3 cap3 w3 hown3 hgrow3 hat3 hlt3; have HO3 := Lib.hid hown3; have HG3 := Lib.hid hgrow3; have HA3 := Lib.hid hat3; have hx2 := (R4.out _ hgrow3).cells.2.2.1; have hf2 := (R4.out _ hgrow3).free 2; clear hown3 hgrow3 hat3)
          all_goals
            go_wp2
            go_end0
            obtain ⟨⟨V3, hV3, hL3⟩, hB3⟩ := R5.out _ _ _ HO3.out HG3.out HA3.out
            exact ⟨rfl, (i + 1), op, Ts ++ [⟨5, ⟨l.toArray⟩, 0, z, true, true, false, 0, 0⟩], D, O, ⟨_, _, _, _, _, hL3⟩, (HBW.out.trans (bel_drewN B W 1)).trans hB3, .inl (by omega), by omega, by omega, .inr ⟨_, rfl, by show (5 : Int) ≠ 2; decide⟩, by omega, by omega⟩
    have e96 : ((s[i].toNat : Int) == 96) = false := by simpa using k96
    clear k96
    by_cases kd : (s[i].toNat : Int) = 36 ∧ ∃ h : i + 1 < s.size, (s[i + 1].toNat : Int) = 123
    · obtain ⟨k36, hl2, k123⟩ := kd
      have e36 : ((s[i].toNat : Int) == 36) = true := by simpa using k36
      have e123 : ((s[i + 1].toNat : Int) == 123) = true := by simpa using k123
      clear k36 k123
      obtain ⟨x4, x5, x3, x2, x1⟩ := idx1 hs hl2
      have u1 : IntKind.i64.wrap ((i : Int) + 2) = i + 2 := IntWalk.i64_in _ (by omega)
      have HX1 : Hid (∀ m, OX w b s (i + 2 : Nat) o d op q la co v l ((wr.drewN m).setCell ⟨b, 1, none⟩ (.int .i64 ((i : Int) + 2)))) := Lib.hid fun m => (HR.out.drewN m).step (gb_set (World.grownBy.refl _ _) _ _) (LX.set1 (HR.out.drewN m).x _)
      go_wp2_with fail
      go_quiet (fail)
      go_wp2_with fail
      go_quiet (fail)
      go_wp2_with fail
      go_quiet (fail)
      obtain ⟨i0, hi, hz0, hz1, hz2⟩ := info_parts info3
      have HI := Lib.hid hi
      have HDV : Hid (∀ m, LV B b s ((wr.drewN m).setCell ⟨b, 1, none⟩ (.int .i64 ((i : Int) + 2))) (i + 2) op Ts D O o d q la co) := Lib.hid fun m => HH.out.next (HX1.out m).g (HX1.out m).x
      have HSZ : Hid (∀ m, ((wr.drewN m).setCell ⟨b, 1, none⟩ (.int .i64 ((i : Int) + 2))).heap.size = wr.heap.size) := Lib.hid fun m => by simp
      have HGB : Hid (∀ m, Below B w ((wr.drewN m).setCell ⟨b, 1, none⟩ (.int .i64 ((i : Int) + 2)))) := Lib.hid fun m => gb_below (HX1.out m).g hBb HH.out.bw
      clear c2 f2
      cases hd
      · go_wp2_with (at_builtin; refine wpList_append_lies _ rfl _ _ _ rfl B 3 i0 _ 1 8 Tryd.underlying36 hi hz0 hz1 hz2 rfl (by omega) d D.length _ rfl (pushd_at (HDV.out _) 0 (HSZ.out _)).1 ⟨wr.heap.size, 0, none⟩ 1 1 _ rfl rfl (pushd_at (HDV.out _) 0 (HSZ.out _)).2.1 (by simp [Value.oneCell']) (by omega) (by unfold maxLen; omega) (by omega) (pushd_at (HDV.out _) 0 (HSZ.out _)).2.2.1 (wr.heap.size + 1) (by simp) ?_; intro g2 cap2 w1 hown1 hgrow hat hlt; have hx3 := ((pushd_at (HDV.out _) 0 (HSZ.out _)).2.2.2.1 _ hgrow).cells.2.2.2.1; have hf3 := ((pushd_at (HDV.out _) 0 (HSZ.out _)).2.2.2.1 _ hgrow).free 3; have P5 := Lib.hid ((pushd_at (HDV.out _) 0 (HSZ.out _)).2.2.2.2 _ _ _ hown1 hgrow hat); have HOB := Lib.hid (pc_deep (HX1.out _) (fun k hk => (HH.out.rd.lt k hk).2) hgrow); clear hown1 hgrow hat hlt)
        obtain ⟨⟨V, hV, hL1⟩, hB1⟩ := P5.out
        have HST : PcSt B b s w (i + 2) op Ts (D ++ [0]) O v l _ := ⟨⟨_, _, _, _, _, hL1⟩, (HGB.out _).trans hB1, HOB.out _⟩
        have HST := Lib.hid HST
        clear hL1 hB1 hV
        refine wp_at_world (PcSt B b s w (i + 2) op Ts (D ++ [0]) O v l) HST.out ?_
        rintro W ⟨⟨o1, d1, q1, la1, co1, hL⟩, hBW, hOB⟩
        clear c0 c1 c4 c5 c6 f1 f4
        have hV := hL.kept (gb_drewN (World.grownBy.refl W none) 1)
        obtain ⟨c0, c1, c2, _, c4, c5, _, _, _⟩ := hL.x.cells
        have f2 := hL.x.free 2
        have hcv : (convert 33 9 v).run Tryd.prog W.drew = .ok (.string ⟨l.toArray⟩) W.drew := OB.conv (w := W.drew) hOB
        have hnb : b < W.heap.size := lt_of_block hL.x
        obtain ⟨j0, hj, hy0, hy1, hy2⟩ := info_parts info31
        have HJ := Lib.hid hj
        obtain ⟨tok, htok⟩ : ∃ tok : Tok, tok = ⟨5, ⟨l.toArray⟩, 0, z, false, false, false, 0, 0⟩ := ⟨_, rfl⟩
        obtain ⟨p1, p2, p3, p4, p5⟩ := LV.pusho hV tok
        rw [htok] at p1 p2 p3 p4 p5
        have R1 := Lib.hid p1
        have R2 := Lib.hid p2
        have R3 := Lib.hid p3
        have R4 := Lib.hid p4
        have R5 := Lib.hid p5
        have HBW := Lib.hid hBW
        have HWB := Lib.hid hL.bw
        clear p1 p2 p3 p4 p5 hV hL hOB hBW
        go_region_law (refine step_append_lies _ (by rfl) _ _ _ (by rfl) B 31 j0 _ 9 56 Tryd.underlying27 hj hy0 hy1 hy2 rfl (by omega) o1 Ts.length _ (by rfl) R1.out ⟨W.heap.size, 0, none⟩ 1 1 _ (by rfl) (by rfl) R2.out (by simp [Value.oneCell']) (by omega) (by unfold maxLen; omega) (by omega) R3.out (W.heap.size + 1) (by simp) ?_; intro g3 cap3 w3 hown3 hgrow3 hat3 hlt3; have HO3 := Lib.hid hown3; have HG3 := Lib.hid hgrow3; have HA3 := Lib.hid hat3; have hx2 := (R4.out _ hgrow3).cells.2.2.1; have hf2 := (R4.out _ hgrow3).free 2; clear hown3 hgrow3 hat3)
        all_goals
          go_wp2
          go_end0
          obtain ⟨⟨V3, hV3, hL3⟩, hB3⟩ := R5.out _ _ _ HO3.out HG3.out HA3.out
          exact ⟨rfl, (i + 2), op, Ts ++ [⟨5, ⟨l.toArray⟩, 0, z, false, false, false, 0, 0⟩], (D ++ [0]), O, ⟨_, _, _, _, _, hL3⟩, (HBW.out.trans (bel_drewN B W 1)).trans hB3, .inl (by omega), by omega, by omega, .inr ⟨_, rfl, by show (5 : Int) ≠ 2; decide⟩, by omega, by simp⟩
      · go_wp2_with (at_builtin; refine wpList_append_lies _ rfl _ _ _ rfl B 3 i0 _ 1 8 Tryd.underlying36 hi hz0 hz1 hz2 rfl (by omega) d D.length _ rfl (pushd_at (HDV.out _) 0 (HSZ.out _)).1 ⟨wr.heap.size, 0, none⟩ 1 1 _ rfl rfl (pushd_at (HDV.out _) 0 (HSZ.out _)).2.1 (by simp [Value.oneCell']) (by omega) (by unfold maxLen; omega) (by omega) (pushd_at (HDV.out _) 0 (HSZ.out _)).2.2.1 (wr.heap.size + 1) (by simp) ?_; intro g2 cap2 w1 hown1 hgrow hat hlt; have hx3 := ((pushd_at (HDV.out _) 0 (HSZ.out _)).2.2.2.1 _ hgrow).cells.2.2.2.1; have hf3 := ((pushd_at (HDV.out _) 0 (HSZ.out _)).2.2.2.1 _ hgrow).free 3; have P5 := Lib.hid ((pushd_at (HDV.out _) 0 (HSZ.out _)).2.2.2.2 _ _ _ hown1 hgrow hat); have HOB := Lib.hid (pc_deep (HX1.out _) (fun k hk => (HH.out.rd.lt k hk).2) hgrow); clear hown1 hgrow hat hlt)
        obtain ⟨⟨V, hV, hL1⟩, hB1⟩ := P5.out
        have hBw : Below B w _ := (HGB.out _).trans hB1
        have hOB1 := HOB.out
        refine (bracket_open B b s _ (ByteArray.toList_eq _) (i + 2) op Ts (D ++ [0]) O o V q la co _ hOs hL1).mono ?_
        rintro e w2 ⟨rfl, ⟨O', hO', hLS⟩, hB2, hKp, hSz⟩
        have HST : PcSt B b s w (i + 2) op Ts (D ++ [0]) O' v l w2 := ⟨hLS, hBw.trans hB2, kp_ob (hOB1 _) HLB.out (fun k e => (HH.out.rq.lt k e).2) hKp⟩
        have HST := Lib.hid HST
        clear hL1 hB1 hV hBw hOB1 hLS hB2 hKp hSz
        go_wp2_with fail
        refine wp_at_world (PcSt B b s w (i + 2) op Ts (D ++ [0]) O' v l) HST.out ?_
        rintro W ⟨⟨o1, d1, q1, la1, co1, hL⟩, hBW, hOB⟩
        clear c0 c1 c4 c5 c6 f1 f4
        have hV := hL.kept (gb_drewN (World.grownBy.refl W none) 1)
        obtain ⟨c0, c1, c2, _, c4, c5, _, _, _⟩ := hL.x.cells
        have f2 := hL.x.free 2
        have hcv : (convert 33 9 v).run Tryd.prog W.drew = .ok (.string ⟨l.toArray⟩) W.drew := OB.conv (w := W.drew) hOB
        have hnb : b < W.heap.size := lt_of_block hL.x
        obtain ⟨j0, hj, hy0, hy1, hy2⟩ := info_parts info31
        have HJ := Lib.hid hj
        obtain ⟨tok, htok⟩ : ∃ tok : Tok, tok = ⟨5, ⟨l.toArray⟩, 0, z, true, false, false, 0, 0⟩ := ⟨_, rfl⟩
        obtain ⟨p1, p2, p3, p4, p5⟩ := LV.pusho hV tok
        rw [htok] at p1 p2 p3 p4 p5
        have R1 := Lib.hid p1
        have R2 := Lib.hid p2
        have R3 := Lib.hid p3
        have R4 := Lib.hid p4
        have R5 := Lib.hid p5
        have HBW := Lib.hid hBW
        have HWB := Lib.hid hL.bw
        clear p1 p2 p3 p4 p5 hV hL hOB hBW
        go_region_law (refine step_append_lies _ (by rfl) _ _ _ (by rfl) B 31 j0 _ 9 56 Tryd.underlying27 hj hy0 hy1 hy2 rfl (by omega) o1 Ts.length _ (by rfl) R1.out ⟨W.heap.size, 0, none⟩ 1 1 _ (by rfl) (by rfl) R2.out (by simp [Value.oneCell']) (by omega) (by unfold maxLen; omega) (by omega) R3.out (W.heap.size + 1) (by simp) ?_; intro g3 cap3 w3 hown3 hgrow3 hat3 hlt3; have HO3 := Lib.hid hown3; have HG3 := Lib.hid hgrow3; have HA3 := Lib.hid hat3; have hx2 := (R4.out _ hgrow3).cells.2.2.1; have hf2 := (R4.out _ hgrow3).free 2; clear hown3 hgrow3 hat3)
        all_goals
          go_wp2
          go_end0
          obtain ⟨⟨V3, hV3, hL3⟩, hB3⟩ := R5.out _ _ _ HO3.out HG3.out HA3.out
          exact ⟨rfl, (i + 2), op, Ts ++ [⟨5, ⟨l.toArray⟩, 0, z, true, false, false, 0, 0⟩], (D ++ [0]), O', ⟨_, _, _, _, _, hL3⟩, (HBW.out.trans (bel_drewN B W 1)).trans hB3, .inl (by omega), by omega, by omega, .inr ⟨_, rfl, by show (5 : Int) ≠ 2; decide⟩, by omega, by simp⟩
    have HKD := Lib.hid kd
    clear kd
    by_cases k92 : (s[i].toNat : Int) = 92
    · have e92 : ((s[i].toNat : Int) == 92) = true := by simpa using k92
      have e36 : ((s[i].toNat : Int) == 36) = false := by simp [k92]
      clear k92
      obtain ⟨i0, hi, hz0, hz1, hz2⟩ := info_parts info5
      have HI := Lib.hid hi
      have hl100 : l.length ≤ 400 := by have := HLL.out; omega
      go_wp2_with fail
      go_quiet (fail)
      go_wp2_with fail
      go_quiet (fail)
      go_wp2_with fail
      go_quiet (fail)
      go_wp2_with fail
      refine (esc_any B T hT hTB hD hU b hBb s i o d op q la co true _ hs hlt (by exact HR.out.x) (hT _ _ (bel_drewN B wr _) HTR.out)).mono ?_
      rintro e w' ⟨x, p', ok, rfl, hx1, hx2, hx3, hg, hl⟩
      have HR2 := Lib.hid ((HR.out.drewN _).step hg hl)
      clear c0 c1 c4 c5 f1 f4 e96 e36 e92
      have f4 := hl.free 4
      have c4 := hl.cells.2.2.2.2.1
      have HG := Lib.hid hg
      have HL := Lib.hid hl
      clear hg hl
      cases ok
      · go_wp2_with fail
        go_end0
        exact ⟨rfl, p', true, Ts, D, O, ⟨_, _, _, _, _, HH.out.next (gb_set HR2.out.g 4 (.bool true)) (LX.set4 HR2.out.x true)⟩, gb_below (gb_set HR2.out.g 4 (.bool true)) hBb HH.out.bw, .inr rfl, by omega, by omega, .inl ⟨rfl, rfl⟩, by omega, by omega⟩
      · go_wp2_with (at_builtin; refine Lib.wpList_append_own_string _ rfl _ _ _ _ rfl w.heap.size 5 i0 Tryd.underlying33 Tryd.underlying9 hi hz0 hz1 hz2 v l.length _ rfl HR2.out.ob x rfl (by unfold maxLen; omega) (by omega) HR2.out.g.size ?_; intro v' w1 hown1 hgrow _; obtain ⟨l', hl', hR3⟩ := HR2.out.pushs x v' w1 hown1 hgrow; have HR3 := Lib.hid hR3; clear hown1 hgrow hR3)
        exact HK.out (s.size - p') _ _ _ (by have := HN.out; omega) ⟨p', l', rfl, by omega, by omega, by have := HLL.out; omega, HR3.out⟩ (F21_at _ _ _ _ rfl ⟨rfl, rfl, rfl, rfl, trivial⟩)
    have e92 : ((s[i].toNat : Int) == 92) = false := by simpa using k92
    clear k92
    have hg36 : ((s[i].toNat : Int) == 36) = false ∨ (((s[i].toNat : Int) == 36) = true ∧ (decide ((i : Int) + 1 < s.size) = false ∨ ∃ h : i + 1 < s.size, ((s[i + 1].toNat : Int) == 123) = false)) := by
      by_cases k36 : (s[i].toNat : Int) = 36
      · refine .inr ⟨by simpa using k36, ?_⟩
        by_cases hl2 : i + 1 < s.size
        · exact .inr ⟨hl2, by have := fun e => HKD.out ⟨k36, hl2, e⟩; simpa using this⟩
        · exact .inl (decide_eq_false (by omega))
      · exact .inl (by simpa using k36)
    have u1 : IntKind.i64.wrap ((i : Int) + 1) = i + 1 := IntWalk.i64_in _ (by omega)
    obtain ⟨i0, hi, hz0, hz1, hz2⟩ := info_parts info5
    have HI := Lib.hid hi
    have hl100 : l.length ≤ 400 := by have := HLL.out; omega
    rcases hg36 with e36 | ⟨e36, e37 | ⟨hl2, e37⟩⟩
    · by_cases k13 : (s[i].toNat : Int) = 13
      · have e13 : ((s[i].toNat : Int) == 13) = true := by simpa using k13
        clear k13
        go_wp2_with fail
        go_quiet (fail)
        go_wp2_with fail
        go_quiet (fail)
        go_wp2_with fail
        go_quiet (fail)
        go_wp2_with fail
        go_end0
        exact HFIN.out _
      · have e13 : ((s[i].toNat : Int) == 13) = false := by simpa using k13
        clear k13
        go_wp2_with fail
        go_quiet (fail)
        go_wp2_with fail
        go_quiet (fail)
        go_wp2_with fail
        go_quiet (fail)
        go_wp2_with fail
        refine (rune_any T hT' hD b s i o d op q la co _ hs hlt (by exact HR.out.x) (hT _ _ (bel_drewN B wr _) HTR.out)).mono ?_
        rintro e w' ⟨x, p', rfl, hx1, hx2, hx3, hg, hl⟩
        have HR2 := Lib.hid ((HR.out.drewN _).step hg hl)
        clear hg hl c0 c1 c4 c5 f1 f4 e96 e13 e36 e92
        go_wp2_with (at_builtin; refine Lib.wpList_append_own_string _ rfl _ _ _ _ rfl w.heap.size 5 i0 Tryd.underlying33 Tryd.underlying9 hi hz0 hz1 hz2 v l.length _ rfl HR2.out.ob x rfl (by unfold maxLen; omega) (by omega) HR2.out.g.size ?_; intro v' w1 hown1 hgrow _; obtain ⟨l', hl', hR3⟩ := HR2.out.pushs x v' w1 hown1 hgrow; have HR3 := Lib.hid hR3; clear hown1 hgrow hR3)
        exact HK.out (s.size - p') _ _ _ (by have := HN.out; omega) ⟨p', l', rfl, by omega, by omega, by have := HLL.out; omega, HR3.out⟩ (F21_at _ _ _ _ rfl ⟨rfl, rfl, rfl, rfl, trivial⟩)
    · have e13 : ((s[i].toNat : Int) == 13) = false := by simp at e36 ⊢; omega
      go_wp2_with fail
      go_quiet (fail)
      go_wp2_with fail
      go_quiet (fail)
      go_wp2_with fail
      go_quiet (fail)
      go_wp2_with fail
      refine (rune_any T hT' hD b s i o d op q la co _ hs hlt (by exact HR.out.x) (hT _ _ (bel_drewN B wr _) HTR.out)).mono ?_
      rintro e w' ⟨x, p', rfl, hx1, hx2, hx3, hg, hl⟩
      have HR2 := Lib.hid ((HR.out.drewN _).step hg hl)
      clear hg hl c0 c1 c4 c5 f1 f4 e96 e13 e36 e92
      go_wp2_with (at_builtin; refine Lib.wpList_append_own_string _ rfl _ _ _ _ rfl w.heap.size 5 i0 Tryd.underlying33 Tryd.underlying9 hi hz0 hz1 hz2 v l.length _ rfl HR2.out.ob x rfl (by unfold maxLen; omega) (by omega) HR2.out.g.size ?_; intro v' w1 hown1 hgrow _; obtain ⟨l', hl', hR3⟩ := HR2.out.pushs x v' w1 hown1 hgrow; have HR3 := Lib.hid hR3; clear hown1 hgrow hR3)
      exact HK.out (s.size - p') _ _ _ (by have := HN.out; omega) ⟨p', l', rfl, by omega, by omega, by have := HLL.out; omega, HR3.out⟩ (F21_at _ _ _ _ rfl ⟨rfl, rfl, rfl, rfl, trivial⟩)
    · have e13 : ((s[i].toNat : Int) == 13) = false := by simp at e36 ⊢; omega
      obtain ⟨x4, x5, x3, x2, x1⟩ := idx1 hs hl2
      go_wp2_with fail
      go_quiet (fail)
      go_wp2_with fail
      go_quiet (fail)
      go_wp2_with fail
      go_quiet (fail)
      go_wp2_with fail
      refine (rune_any T hT' hD b s i o d op q la co _ hs hlt (by exact HR.out.x) (hT _ _ (bel_drewN B wr _) HTR.out)).mono ?_
      rintro e w' ⟨x, p', rfl, hx1, hx2, hx3, hg, hl⟩
      have HR2 := Lib.hid ((HR.out.drewN _).step hg hl)
      clear hg hl c0 c1 c4 c5 f1 f4 e96 e13 e36 e92
      go_wp2_with (at_builtin; refine Lib.wpList_append_own_string _ rfl _ _ _ _ rfl w.heap.size 5 i0 Tryd.underlying33 Tryd.underlying9 hi hz0 hz1 hz2 v l.length _ rfl HR2.out.ob x rfl (by unfold maxLen; omega) (by omega) HR2.out.g.size ?_; intro v' w1 hown1 hgrow _; obtain ⟨l', hl', hR3⟩ := HR2.out.pushs x v' w1 hown1 hgrow; have HR3 := Lib.hid hR3; clear hown1 hgrow hR3)
      exact HK.out (s.size - p') _ _ _ (by have := HN.out; omega) ⟨p', l', rfl, by omega, by omega, by have := HLL.out; omega, HR3.out⟩ (F21_at _ _ _ _ rfl ⟨rfl, rfl, rfl, rfl, trivial⟩)
  · have g1 : decide ((i : Int) < s.size) = false := decide_eq_false (by omega)
    go_wp2_with fail
    go_quiet (fail)
    go_wp2_with fail
    go_end0
    exact HFIN.out _
end Go.Proofs.YtblphppdfiipfaaDoor
