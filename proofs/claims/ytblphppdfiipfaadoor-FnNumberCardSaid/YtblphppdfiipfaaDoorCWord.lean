/- The lexer takes a name, and a string. Conditions: none. -/
import Derived.Test.YtblphppdfiipfaaDoorCBytes
import Derived.Test.YtblphppdfiipfaaDoorCLetter
import Derived.Deep.RegionLaw
namespace Go.Proofs.YtblphppdfiipfaaDoor
open Go.RowKit
set_option maxRecDepth 100000

def F18 (b : Nat) (v : Value) : (Nat → Value) → Act := FG 122 [(0, .pointer (some ⟨b, 0, none⟩)), (3, v)]
theorem F18_lit (b : Nat) (v : Value) (u : Nat → Value) : F18 b  v u = { tmps := #[.pointer (some ⟨b, 0, none⟩), u 1, u 2, v, u 4, u 5, u 6, u 7, u 8, u 9, u 10, u 11, u 12, u 13, u 14, u 15, u 16, u 17, u 18, u 19, u 20, u 21, u 22, u 23, u 24, u 25, u 26, u 27, u 28, u 29, u 30, u 31, u 32, u 33, u 34, u 35, u 36, u 37, u 38, u 39, u 40, u 41, u 42, u 43, u 44, u 45, u 46, u 47, u 48, u 49, u 50, u 51, u 52, u 53, u 54, u 55, u 56, u 57, u 58, u 59, u 60, u 61, u 62, u 63, u 64, u 65, u 66, u 67, u 68, u 69, u 70, u 71, u 72, u 73, u 74, u 75, u 76, u 77, u 78, u 79, u 80, u 81, u 82, u 83, u 84, u 85, u 86, u 87, u 88, u 89, u 90, u 91, u 92, u 93, u 94, u 95, u 96, u 97, u 98, u 99, u 100, u 101, u 102, u 103, u 104, u 105, u 106, u 107, u 108, u 109, u 110, u 111, u 112, u 113, u 114, u 115, u 116, u 117, u 118, u 119, u 120, u 121], defers := [] } := by kernel_rfl
theorem F18_at (b : Nat) (v : Value) {L : List Value} (hl : L.length = 122) (hn : NmOk L [(0, .pointer (some ⟨b, 0, none⟩)), (3, v)]) : (F18 b  v fun k => (Act.mk L.toArray []).tmps.getD k undef) = { tmps := L.toArray, defers := [] } := FG_at hl hn
def WordPost (w : World) (b : Nat) (s : ByteArray) (p : Nat) (o d : Value) (q : Value) (la co : Bool) (e : Ending) (w' : World) : Prop :=
  ∃ (x : ByteArray) (p' : Nat) (op' : Bool), e = .returned (.string x) ∧ (p < p' ∨ op' = true) ∧ p ≤ p' ∧ p' ≤ s.size ∧ w.grownBy w' (some b) ∧ LX w' b s p' o d op' q la co
def WdRel (w0 : World) (b : Nat) (s : ByteArray) (p : Nat) (o d : Value) (op : Bool) (q : Value) (la co : Bool) (n : Nat) (v : Value) (wr : World) : Prop :=
  ∃ (i : Nat) (op' : Bool) (l : List UInt8), n = s.size - i ∧ ((i = p ∧ op' = op) ∨ p < i) ∧ p ≤ i ∧ i ≤ s.size ∧ l.length ≤ 4 * i ∧ OX w0 b s i o d op' q la co v l wr

set_option maxHeartbeats 4000000 in
theorem word_any (B : Nat) (T : World → Prop) (hT : ∀ w w' : World, Below B w w' → T w → T w') (hTB : ∀ w, T w → B ≤ w.heap.size) (hD : DecSaid T) (hU : PuSaid T) (b : Nat) (hBb : B ≤ b) (s : ByteArray) (p : Nat) (o d : Value) (op : Bool) (q : Value) (la co : Bool) (w : World) (hs : s.size ≤ 100) (hp : p < s.size)
    (hX : LX w b s p o d op q la co) (hw : T w) (hc0 : lt (s[p].toNat : Int) = true ∨ 128 ≤ (s[p].toNat : Int) ∨ (s[p].toNat : Int) = 92) :
    Calls Tryd.prog 18 #[.pointer (some ⟨b, 0, none⟩)] w (WordPost w b s p o d q la co) := by
  have hT' : ∀ w w' : World, Below w.heap.size w w' → T w → T w' := fun w w' h hw => hT _ _ (h.mono (hTB w hw)) hw
  have hlb := lt_of_block hX
  have HX := Lib.hid hX; clear hX
  have HC0 := Lib.hid hc0; clear hc0
  have HTW := Lib.hid hw; clear hw
  have HLB := Lib.hid hlb; clear hlb
  go_enter Tryd.func18, Tryd.ntmps18
  go_wp2
  refine wp_loop_x (F18 b) (WdRel w b s p o d op q la co) (s.size - p) (.slice none 0 0) ⟨p, op, [], rfl, .inl ⟨rfl, rfl⟩, Nat.le_refl _, by omega, by simp, HLB.out, World.grownBy.refl _ _, HX.out, OB.nil _ _⟩ (F18_at _ _ rfl ⟨rfl, rfl, trivial⟩) ?_
  rintro n v u wr ⟨i, op', l, hn, hio, hpi, his, hll, hR⟩ K hK
  have HN := Lib.hid hn; clear hn
  have HIO := Lib.hid hio; clear hio
  have HK := Lib.hid hK; clear hK
  have HLL := Lib.hid hll; clear hll
  have HTR : Hid (T wr) := Lib.hid (hT _ _ (gb_below hR.g hBb (hTB _ HTW.out)) HTW.out)
  obtain ⟨c0, c1, _, _, c4, c5, _, _, _⟩ := hR.x.cells
  have f1 := hR.x.free 1
  have f4 := hR.x.free 4
  have hcv := fun m => (hR.drewN m).ob.conv
  have HR := Lib.hid hR; clear hR
  rw [F18_lit]
  by_cases hlt : i < s.size
  · have g1 : decide ((i : Int) < s.size) = true := decide_eq_true (by omega)
    cases op'
    · have w1 : (i : Int) < s.size := by omega
      obtain ⟨zl, hzl⟩ : ∃ z, lt (s[i].toNat : Int) = z := ⟨_, rfl⟩
      obtain ⟨zd, hzd⟩ : ∃ z, dg (s[i].toNat : Int) = z := ⟨_, rfl⟩
      have HZL := Lib.hid hzl
      have HZD := Lib.hid hzd
      clear hzl hzd
      have HCL : Hid (∀ w, Calls Tryd.prog 17 #[.int .u8 (s[i].toNat : Int)] w fun e w' => e = .returned (.bool zl) ∧ w' = w) := Lib.hid fun w => by rw [← HZL.out]; exact isLetter_any _ w
      have HCD : Hid (∀ w, Calls Tryd.prog 8 #[.int .u8 (s[i].toNat : Int)] w fun e w' => e = .returned (.bool zd) ∧ w' = w) := Lib.hid fun w => by rw [← HZD.out]; exact isDigit_any _ w
      obtain ⟨i0, hi, hz0, hz1, hz2⟩ := info_parts info5
      have HI := Lib.hid hi
      have hpush : ∀ m, OX w b s i o d false q la co v l (wr.drewN m) := fun m => HR.out.drewN m
      have HP := Lib.hid hpush
      clear hpush
      have hl100 : l.length ≤ 400 := by have := HLL.out; omega
      have hz : (decide (128 ≤ (s[i].toNat : Int))) = decide (128 ≤ (s[i].toNat : Int)) := rfl
      clear hz
      go_wp2
      go_quiet (fail)
      go_wp2
      go_quiet (fail)
      go_wp2_with fail
      refine (HCL.out _).mono ?_
      rintro e w' ⟨rfl, rfl⟩
      cases zl
      · go_wp2_with fail
        refine (HCD.out _).mono ?_
        rintro e w' ⟨rfl, rfl⟩
        cases zd
        · by_cases k128 : 128 ≤ (s[i].toNat : Int)
          · go_wp2_with fail
            refine (rune_any T hT' hD b s i o d false q la co _ hs hlt (by exact HR.out.x) (hT _ _ (bel_drewN B wr _) HTR.out)).mono ?_
            rintro e w' ⟨x, p', rfl, hx1, hx2, hx3, hg, hl⟩
            have HR2 := Lib.hid ((HR.out.drewN _).step hg hl)
            clear hg hl hcv c0 c1 c4 c5 f1 f4 HCL HCD k128
            go_wp2_with (at_builtin; refine Lib.wpList_append_own_string _ rfl _ _ _ _ rfl w.heap.size 5 i0 Tryd.underlying33 Tryd.underlying9 hi hz0 hz1 hz2 v l.length _ rfl HR2.out.ob x rfl (by unfold maxLen; omega) (by omega) HR2.out.g.size ?_; intro v' w1 hown1 hgrow _; obtain ⟨l', hl', hR3⟩ := HR2.out.pushs x v' w1 hown1 hgrow; have HR3 := Lib.hid hR3; clear hown1 hgrow hR3)
            exact HK.out (s.size - p') _ _ _ (by have := HN.out; omega) ⟨p', false, l', rfl, .inr (by omega), by omega, by omega, by have := HLL.out; omega, HR3.out⟩ (F18_at _ _ rfl ⟨rfl, rfl, trivial⟩)
          have k128' : (s[i].toNat : Int) < 128 := by omega
          have K128 := Lib.hid k128
          clear k128
          by_cases k92 : (s[i].toNat : Int) = 92
          · have e92 : ((s[i].toNat : Int) == 92) = true := by simpa using k92
            clear k92
            by_cases hl2 : i + 1 < s.size
            · obtain ⟨u4, u5, u3, u2, u1⟩ := idx1 hs hl2
              have z3 : (((i : Int) + 1) == s.size) = false := by simp; omega
              by_cases k117 : (s[i + 1].toNat : Int) = 117
              · have e117 : ((s[i + 1].toNat : Int) != 117) = false := by simp [k117]
                clear k117
                go_wp2_with fail
                go_quiet (fail)
                go_wp2_with fail
                refine (esc_any B T hT hTB hD hU b hBb s i o d false q la co false _ hs hlt (by exact HR.out.x) (hT _ _ (bel_drewN B wr _) HTR.out)).mono ?_
                rintro e w' ⟨x, p', ok, rfl, hx1, hx2, hx3, hg, hl⟩
                have HR2 := Lib.hid ((HR.out.drewN _).step hg hl)
                clear hcv c0 c1 c4 c5 f1 f4 HCL HCD z3 e117 e92 k128'
                have f4 := hl.free 4
                have c4 := hl.cells.2.2.2.2.1
                clear hg hl
                cases ok
                · have HR2 := Lib.hid (HR2.out.step (gb_set (World.grownBy.refl _ _) 4 (.bool true)) (LX.set4 HR2.out.x true))
                  go_wp2_with (at_builtin; refine Lib.wpList_append_own_string _ rfl _ _ _ _ rfl w.heap.size 5 i0 Tryd.underlying33 Tryd.underlying9 hi hz0 hz1 hz2 v l.length _ rfl HR2.out.ob x rfl (by unfold maxLen; omega) (by omega) HR2.out.g.size ?_; intro v' w1 hown1 hgrow _; obtain ⟨l', hl', hR3⟩ := HR2.out.pushs x v' w1 hown1 hgrow; have HR3 := Lib.hid hR3; clear hown1 hgrow hR3)
                  exact HK.out (s.size - p') _ _ _ (by have := HN.out; omega) ⟨p', true, l', rfl, .inr (by omega), by omega, by omega, by have := HLL.out; omega, HR3.out⟩ (F18_at _ _ rfl ⟨rfl, rfl, trivial⟩)
                · go_wp2_with (at_builtin; refine Lib.wpList_append_own_string _ rfl _ _ _ _ rfl w.heap.size 5 i0 Tryd.underlying33 Tryd.underlying9 hi hz0 hz1 hz2 v l.length _ rfl HR2.out.ob x rfl (by unfold maxLen; omega) (by omega) HR2.out.g.size ?_; intro v' w1 hown1 hgrow _; obtain ⟨l', hl', hR3⟩ := HR2.out.pushs x v' w1 hown1 hgrow; have HR3 := Lib.hid hR3; clear hown1 hgrow hR3)
                  exact HK.out (s.size - p') _ _ _ (by have := HN.out; omega) ⟨p', false, l', rfl, .inr (by omega), by omega, by omega, by have := HLL.out; omega, HR3.out⟩ (F18_at _ _ rfl ⟨rfl, rfl, trivial⟩)
              · have e117 : ((s[i + 1].toNat : Int) != 117) = true := by simpa using k117
                clear k117
                go_wp2_with fail
                go_quiet (fail)
                go_wp2_with fail
                go_ret
                exact ⟨_, i, true, rfl, .inr rfl, hpi, his, gb_set (gb_drewN HR.out.g _) _ _, LX.set4 (by exact HR.out.x) _⟩
            · have z3 : (((i : Int) + 1) == s.size) = true := by simp; omega
              have u1 : IntKind.i64.wrap ((i : Int) + 1) = i + 1 := IntWalk.i64_in _ (by omega)
              go_wp2_with fail
              go_quiet (fail)
              go_wp2_with fail
              go_ret
              exact ⟨_, i, true, rfl, .inr rfl, hpi, his, gb_set (gb_drewN HR.out.g _) _ _, LX.set4 (by exact HR.out.x) _⟩
          · have e92 : ((s[i].toNat : Int) == 92) = false := by simpa using k92
            have HE : Hid (p < i) := Lib.hid (by
              rcases HIO.out with ⟨rfl, _⟩ | h
              · rcases HC0.out with h | h | h
                · rw [HZL.out] at h; exact absurd h (by simp)
                · omega
                · exact absurd h k92
              · exact h)
            clear k92
            go_wp2_with fail
            go_ret
            exact ⟨_, i, false, rfl, .inl HE.out, hpi, his, gb_drewN HR.out.g _, HR.out.x⟩
        · go_wp2_with (at_builtin; refine wpList_append_lies _ rfl _ _ _ rfl w.heap.size 5 i0 _ 1 1 Tryd.underlying33 hi hz0 hz1 hz2 rfl (by omega) v l.length _ rfl (OX.pushb (HP.out _) s[i]).1 ⟨wr.heap.size, 0, none⟩ 1 1 _ rfl rfl (OX.pushb (HP.out _) s[i]).2.1 (by simp [Value.oneCell']) (by omega) (by unfold maxLen; omega) (by omega) (OX.pushb (HP.out _) s[i]).2.2.1 (wr.heap.size + 1) (by simp) ?_; intro g2 cap2 w1 hown1 hgrow hat hlt; have hx := (OX.pushb (HP.out _) s[i]).2.2.2 g2 cap2 w1 hown1 hgrow; have c1' := hx.x.cells.2.1; have f1' := hx.x.free 1; have HX1 := Lib.hid hx; clear hx hown1 hgrow hat hlt)
          exact HK.out (s.size - (i + 1)) _ _ _ (by have := HN.out; omega) ⟨i + 1, false, l ++ [s[i]], rfl, .inr (by omega), by omega, by omega, by have := HLL.out; simp; omega, HX1.out.step (gb_set (World.grownBy.refl _ _) _ _) (LX.set1 HX1.out.x _)⟩ (F18_at _ _ rfl ⟨rfl, rfl, trivial⟩)
      · go_wp2_with (at_builtin; refine wpList_append_lies _ rfl _ _ _ rfl w.heap.size 5 i0 _ 1 1 Tryd.underlying33 hi hz0 hz1 hz2 rfl (by omega) v l.length _ rfl (OX.pushb (HP.out _) s[i]).1 ⟨wr.heap.size, 0, none⟩ 1 1 _ rfl rfl (OX.pushb (HP.out _) s[i]).2.1 (by simp [Value.oneCell']) (by omega) (by unfold maxLen; omega) (by omega) (OX.pushb (HP.out _) s[i]).2.2.1 (wr.heap.size + 1) (by simp) ?_; intro g2 cap2 w1 hown1 hgrow hat hlt; have hx := (OX.pushb (HP.out _) s[i]).2.2.2 g2 cap2 w1 hown1 hgrow; have c1' := hx.x.cells.2.1; have f1' := hx.x.free 1; have HX1 := Lib.hid hx; clear hx hown1 hgrow hat hlt)
        exact HK.out (s.size - (i + 1)) _ _ _ (by have := HN.out; omega) ⟨i + 1, false, l ++ [s[i]], rfl, .inr (by omega), by omega, by omega, by have := HLL.out; simp; omega, HX1.out.step (gb_set (World.grownBy.refl _ _) _ _) (LX.set1 HX1.out.x _)⟩ (F18_at _ _ rfl ⟨rfl, rfl, trivial⟩)
    · go_wp2
      go_quiet (fail)
      go_wp2
      go_ret
      exact ⟨_, i, true, rfl, .inr rfl, hpi, his, gb_drewN HR.out.g _, HR.out.x⟩
  · have g1 : decide ((i : Int) < s.size) = false := decide_eq_false (by omega)
    have HPI : Hid (p < i) := Lib.hid (by omega)
    go_wp2
    go_quiet (fail)
    go_wp2
    go_ret
    exact ⟨_, i, op', rfl, .inl HPI.out, hpi, his, gb_drewN HR.out.g _, HR.out.x⟩
set_option maxRecDepth 100000

/-- the walk's world is given a name -/
theorem wp_at_world {P : Program} {c : Code} {Q : Exit → Act → World → Prop} {a : Act} {W0 : World} (φ : World → Prop) (h0 : φ W0) (h : ∀ W, φ W → c.wp P Q a W) : c.wp P Q a W0 := h _ h0
/-- what one token's functions leave -/
def TokPost (B b : Nat) (s : ByteArray) (w : World) (p : Nat) (T : List Tok) (D : List Int) (O : List (Bool × Int)) (e : Ending) (w' : World) : Prop :=
  e = .returned (.tuple #[]) ∧ ∃ p' op' T' D' O', LS B b s w' p' op' T' D' O' ∧ Below B w w' ∧ (p < p' ∨ op' = true) ∧ p ≤ p' ∧ p' ≤ s.size ∧ ((T' = T ∧ op' = true) ∨ ∃ t : Tok, T' = T ++ [t] ∧ t.k ≠ 2) ∧ O'.length ≤ O.length + 2 ∧ D'.length ≤ D.length + 1
def F20 (b : Nat) (c : Int) (z : Bool) (v : Value) (es : Bool) : (Nat → Value) → Act := FG 112 [(0, .pointer (some ⟨b, 0, none⟩)), (1, .int .u8 c), (2, .bool z), (6, v), (7, .bool es)]
theorem F20_lit (b : Nat) (c : Int) (z : Bool) (v : Value) (es : Bool) (u : Nat → Value) : F20 b  c  z  v  es u = { tmps := #[.pointer (some ⟨b, 0, none⟩), .int .u8 c, .bool z, u 3, u 4, u 5, v, .bool es, u 8, u 9, u 10, u 11, u 12, u 13, u 14, u 15, u 16, u 17, u 18, u 19, u 20, u 21, u 22, u 23, u 24, u 25, u 26, u 27, u 28, u 29, u 30, u 31, u 32, u 33, u 34, u 35, u 36, u 37, u 38, u 39, u 40, u 41, u 42, u 43, u 44, u 45, u 46, u 47, u 48, u 49, u 50, u 51, u 52, u 53, u 54, u 55, u 56, u 57, u 58, u 59, u 60, u 61, u 62, u 63, u 64, u 65, u 66, u 67, u 68, u 69, u 70, u 71, u 72, u 73, u 74, u 75, u 76, u 77, u 78, u 79, u 80, u 81, u 82, u 83, u 84, u 85, u 86, u 87, u 88, u 89, u 90, u 91, u 92, u 93, u 94, u 95, u 96, u 97, u 98, u 99, u 100, u 101, u 102, u 103, u 104, u 105, u 106, u 107, u 108, u 109, u 110, u 111], defers := [] } := by kernel_rfl
theorem F20_at (b : Nat) (c : Int) (z : Bool) (v : Value) (es : Bool) {L : List Value} (hl : L.length = 112) (hn : NmOk L [(0, .pointer (some ⟨b, 0, none⟩)), (1, .int .u8 c), (2, .bool z), (6, v), (7, .bool es)]) : (F20 b  c  z  v  es fun k => (Act.mk L.toArray []).tmps.getD k undef) = { tmps := L.toArray, defers := [] } := FG_at hl hn
def TxRel (w0 : World) (b : Nat) (s : ByteArray) (p : Nat) (o d : Value) (op : Bool) (q : Value) (la co : Bool) (n : Nat) (x : Value × Bool) (wr : World) : Prop :=
  ∃ (i : Nat) (l : List UInt8), n = s.size - i ∧ p + 1 ≤ i ∧ i ≤ s.size ∧ l.length ≤ 4 * i ∧ OX w0 b s i o d op q la co x.1 l wr

set_option maxHeartbeats 4000000 in
theorem text_any (B : Nat) (T : World → Prop) (hT : ∀ w w' : World, Below B w w' → T w → T w') (hTB : ∀ w, T w → B ≤ w.heap.size) (hD : DecSaid T) (hU : PuSaid T) (b : Nat) (s : ByteArray) (p : Nat) (op : Bool) (c : Int) (z : Bool) (Ts : List Tok) (D : List Int) (O : List (Bool × Int)) (w : World) (hs : s.size ≤ 100) (hp : p < s.size)
    (hTs : Ts.length ≤ 200) (h : LS B b s w p op Ts D O) (hw : T w) :
    Calls Tryd.prog 20 #[.pointer (some ⟨b, 0, none⟩), .int .u8 c, .bool z] w (TokPost B b s w p Ts D O) := by
  have hT' : ∀ w w' : World, Below w.heap.size w w' → T w → T w' := fun w w' h hw => hT _ _ (h.mono (hTB w hw)) hw
  obtain ⟨o, d, q, la, co, h⟩ := h
  have hBb := h.bb
  have hlb := lt_of_block h.x
  obtain ⟨c0, c1, _, _, c4, c5, _, _, _⟩ := h.x.cells
  have f1 := h.x.free 1
  have HH := Lib.hid h; clear h
  have HTW := Lib.hid hw; clear hw
  have HLB := Lib.hid hlb; clear hlb
  go_enter Tryd.func20, Tryd.ntmps20
  have u1 : IntKind.i64.wrap ((p : Int) + 1) = p + 1 := IntWalk.i64_in _ (by omega)
  go_wp2
  refine wp_loop_x (fun x : Value × Bool => F20 b c z x.1 x.2) (TxRel w b s p o d op q la co) (s.size - (p + 1)) (.slice none 0 0, false) ⟨p + 1, [], rfl, by omega, by omega, by simp, HLB.out, gb_set (World.grownBy.refl _ _) _ _, LX.set1 HH.out.x _, OB.nil _ _⟩ (F20_at _ _ _ _ _ rfl ⟨rfl, rfl, rfl, rfl, rfl, trivial⟩) ?_
  rintro n ⟨v, es⟩ u wr ⟨i, l, hn, hpi, his, hll, hR⟩ K hK
  simp only at hR
  clear c0 c1 c4 c5 f1 u1
  have HN := Lib.hid hn; clear hn
  have HK := Lib.hid hK; clear hK
  have HLL := Lib.hid hll; clear hll
  have HTR : Hid (T wr) := Lib.hid (hT _ _ (gb_below hR.g hBb (hTB _ HTW.out)) HTW.out)
  obtain ⟨c0, c1, c2, _, c4, c5, _, _, _⟩ := hR.x.cells
  have f1 := hR.x.free 1
  have f2 := hR.x.free 2
  have f4 := hR.x.free 4
  have HR := Lib.hid hR; clear hR
  rw [F20_lit]
  by_cases hlt : i < s.size
  · have g1 : decide ((i : Int) < s.size) = true := decide_eq_true (by omega)
    have w1 : (i : Int) < s.size := by omega
    by_cases kq : (s[i].toNat : Int) = c
    · have eq : ((s[i].toNat : Int) != c) = false := by simp [kq]
      have g2 : ((i : Int) == s.size) = false := by simp; omega
      have u1 : IntKind.i64.wrap ((i : Int) + 1) = i + 1 := IntWalk.i64_in _ (by omega)
      clear kq
      have hconv : ∀ wx : World, w.grownBy wx (some b) → OB w.heap.size wx v l → (convert 33 9 v).run Tryd.prog wx = .ok (.string ⟨l.toArray⟩) wx := fun wx _ h => h.conv
      go_wp2_with fail
      go_quiet (fail)
      go_wp2_with fail
      go_quiet (fail)
      go_wp2_with fail
      refine wp_at_world (fun W => OX w b s (i + 1 : Nat) o d op q la co v l W) ((HR.out.drewN _).step (gb_set (World.grownBy.refl _ _) _ _) (LX.set1 (HR.out.drewN _).x _)) ?_
      intro W hW
      clear c0 c1 c2 c4 c5 f1 f2 f4
      have hV : LV B b s W.drew (i + 1) op Ts D O o d q la co := HH.out.next (gb_drewN hW.g 1) hW.x
      obtain ⟨c0, c1, c2, _, c4, c5, _, _, _⟩ := hW.x.cells
      have f2 := hW.x.free 2
      have hcv : (convert 33 9 v).run Tryd.prog W.drew = .ok (.string ⟨l.toArray⟩) W.drew := (hW.drewN 1).ob.conv
      have hnb : b < W.heap.size := lt_of_block hW.x
      obtain ⟨i0, hi, hz0, hz1, hz2⟩ := info_parts info31
      have HI := Lib.hid hi
      have HW := Lib.hid hW
      obtain ⟨tok, htok⟩ : ∃ tok : Tok, tok = ⟨3, ⟨l.toArray⟩, 0, z, false, false, es, 0, 0⟩ := ⟨_, rfl⟩
      obtain ⟨p1, p2, p3, p4, p5⟩ := LV.pusho hV tok
      rw [htok] at p1 p2 p3 p4 p5
      have P1 := Lib.hid p1
      have P2 := Lib.hid p2
      have P3 := Lib.hid p3
      have P4 := Lib.hid p4
      have P5 := Lib.hid p5
      clear p1 p2 p3 p4 p5 hV hW hconv
      go_region_law (refine step_append_lies _ (by rfl) _ _ _ (by rfl) B 31 i0 _ 9 56 Tryd.underlying27 hi hz0 hz1 hz2 rfl (by omega) o Ts.length _ (by rfl) P1.out ⟨W.heap.size, 0, none⟩ 1 1 _ (by rfl) (by rfl) P2.out (by simp [Value.oneCell']) (by omega) (by unfold maxLen; omega) (by omega) P3.out (W.heap.size + 1) (by simp) ?_; intro g2 cap2 w1 hown1 hgrow hat hlt; have HO1 := Lib.hid hown1; have HG1 := Lib.hid hgrow; have HA1 := Lib.hid hat; have hx2 := (P4.out _ hgrow).cells.2.2.1; have hf2 := (P4.out _ hgrow).free 2; clear hown1 hgrow hat)
      all_goals
        go_wp2
        go_end0
        obtain ⟨⟨V, hV, hL⟩, hB⟩ := P5.out _ _ _ HO1.out HG1.out HA1.out
        exact ⟨rfl, i + 1, op, Ts ++ [⟨3, ⟨l.toArray⟩, 0, z, false, false, es, 0, 0⟩], D, O, ⟨_, _, _, _, _, hL⟩, (gb_below (gb_drewN HW.out.g 1) hBb HH.out.bw).trans hB, .inl (by omega), by omega, by omega, .inr ⟨_, rfl, by show (3 : Int) ≠ 2; decide⟩, by omega, by omega⟩
    · have eq : ((s[i].toNat : Int) != c) = true := by simpa using kq
      clear kq
      obtain ⟨i0, hi, hz0, hz1, hz2⟩ := info_parts info5
      have HI := Lib.hid hi
      have hl100 : l.length ≤ 400 := by have := HLL.out; omega
      by_cases k10 : (s[i].toNat : Int) = 10 ∨ (s[i].toNat : Int) = 13
      · have e10 : ∃ x, ((s[i].toNat : Int) == 10) = x ∧ (x = false → ((s[i].toNat : Int) == 13) = true) := ⟨_, rfl, fun e => by simp at e ⊢; omega⟩
        obtain ⟨x, e10, e13⟩ := e10
        clear k10
        cases x
        · have e13 := e13 rfl
          go_wp2_with fail
          go_quiet (fail)
          go_wp2_with fail
          go_quiet (fail)
          go_wp2_with fail
          go_end0
          exact ⟨rfl, i, true, Ts, D, O, ⟨_, _, _, _, _, HH.out.next (gb_set (gb_drewN HR.out.g _) 4 (.bool true)) (LX.set4 HR.out.x true)⟩, gb_below (gb_set (gb_drewN HR.out.g _) 4 (.bool true)) hBb HH.out.bw, .inr rfl, by omega, his, .inl ⟨rfl, rfl⟩, by omega, by omega⟩
        · clear e13
          go_wp2_with fail
          go_quiet (fail)
          go_wp2_with fail
          go_quiet (fail)
          go_wp2_with fail
          go_end0
          exact ⟨rfl, i, true, Ts, D, O, ⟨_, _, _, _, _, HH.out.next (gb_set (gb_drewN HR.out.g _) 4 (.bool true)) (LX.set4 HR.out.x true)⟩, gb_below (gb_set (gb_drewN HR.out.g _) 4 (.bool true)) hBb HH.out.bw, .inr rfl, by omega, his, .inl ⟨rfl, rfl⟩, by omega, by omega⟩
      have e10 : ((s[i].toNat : Int) == 10) = false := by simp; omega
      have e13 : ((s[i].toNat : Int) == 13) = false := by simp; omega
      clear k10
      by_cases k92 : (s[i].toNat : Int) = 92
      · have e92 : ((s[i].toNat : Int) == 92) = true := by simpa using k92
        clear k92
        go_wp2_with fail
        go_quiet (fail)
        go_wp2_with fail
        go_quiet (fail)
        go_wp2_with fail
        refine (esc_any B T hT hTB hD hU b hBb s i o d op q la co false _ hs hlt (by exact HR.out.x) (hT _ _ (bel_drewN B wr _) HTR.out)).mono ?_
        rintro e w' ⟨x, p', ok, rfl, hx1, hx2, hx3, hg, hl⟩
        have HR2 := Lib.hid ((HR.out.drewN _).step hg hl)
        clear c0 c1 c4 c5 f1 f4 e10 e13 e92
        have f4 := hl.free 4
        have c4 := hl.cells.2.2.2.2.1
        have HG := Lib.hid hg
        have HL := Lib.hid hl
        clear hg hl
        cases ok
        · go_wp2_with fail
          go_end0
          exact ⟨rfl, p', true, Ts, D, O, ⟨_, _, _, _, _, HH.out.next (gb_set HR2.out.g 4 (.bool true)) (LX.set4 HR2.out.x true)⟩, gb_below (gb_set HR2.out.g 4 (.bool true)) hBb HH.out.bw, .inr rfl, by omega, by omega, .inl ⟨rfl, rfl⟩, by omega, by omega⟩
        · go_wp2_with (at_builtin; refine Lib.wpList_append_own_string _ rfl _ _ _ _ rfl w.heap.size 5 i0 Tryd.underlying33 Tryd.underlying9 hi hz0 hz1 hz2 v l.length _ rfl HR2.out.ob x rfl (by unfold maxLen; omega) (by omega) HR2.out.g.size ?_; intro v' w1 hown1 hgrow _; obtain ⟨l', hl', hR3⟩ := HR2.out.pushs x v' w1 hown1 hgrow; have HR3 := Lib.hid hR3; clear hown1 hgrow hR3)
          exact HK.out (s.size - p') (_, true) _ _ (by have := HN.out; omega) ⟨p', l', rfl, by omega, by omega, by have := HLL.out; omega, HR3.out⟩ (F20_at _ _ _ _ _ rfl ⟨rfl, rfl, rfl, rfl, rfl, trivial⟩)
      · have e92 : ((s[i].toNat : Int) == 92) = false := by simpa using k92
        clear k92
        go_wp2_with fail
        go_quiet (fail)
        go_wp2_with fail
        go_quiet (fail)
        go_wp2_with fail
        refine (rune_any T hT' hD b s i o d op q la co _ hs hlt (by exact HR.out.x) (hT _ _ (bel_drewN B wr _) HTR.out)).mono ?_
        rintro e w' ⟨x, p', rfl, hx1, hx2, hx3, hg, hl⟩
        have HR2 := Lib.hid ((HR.out.drewN _).step hg hl)
        clear hg hl c0 c1 c4 c5 f1 f4 e10 e13 e92
        go_wp2_with (at_builtin; refine Lib.wpList_append_own_string _ rfl _ _ _ _ rfl w.heap.size 5 i0 Tryd.underlying33 Tryd.underlying9 hi hz0 hz1 hz2 v l.length _ rfl HR2.out.ob x rfl (by unfold maxLen; omega) (by omega) HR2.out.g.size ?_; intro v' w1 hown1 hgrow _; obtain ⟨l', hl', hR3⟩ := HR2.out.pushs x v' w1 hown1 hgrow; have HR3 := Lib.hid hR3; clear hown1 hgrow hR3)
        exact HK.out (s.size - p') (_, es) _ _ (by have := HN.out; omega) ⟨p', l', rfl, by omega, by omega, by have := HLL.out; omega, HR3.out⟩ (F20_at _ _ _ _ _ rfl ⟨rfl, rfl, rfl, rfl, rfl, trivial⟩)
  · have g1 : decide ((i : Int) < s.size) = false := decide_eq_false (by omega)
    have g2 : ((i : Int) == s.size) = true := by simp; omega
    go_wp2_with fail
    go_quiet (fail)
    go_wp2_with fail
    go_quiet (fail)
    go_wp2_with fail
    go_end0
    exact ⟨rfl, i, true, Ts, D, O, ⟨_, _, _, _, _, HH.out.next (gb_set (gb_drewN HR.out.g _) 4 (.bool true)) (LX.set4 HR.out.x true)⟩, gb_below (gb_set (gb_drewN HR.out.g _) 4 (.bool true)) hBb HH.out.bw, .inr rfl, by omega, his, .inl ⟨rfl, rfl⟩, by omega, by omega⟩
set_option maxRecDepth 100000

/-- blocks other than the lexer's and the brackets' row are as they were -/
def Kp (b : Nat) (q : Value) (w w' : World) : Prop := ∀ k, k < w.heap.size → k ≠ b → q.ownBlock ≠ some k → w'.heap[k]? = w.heap[k]?
theorem kp_push {b : Nat} {q : Value} {w w1 : World} {x : Obj} {i : Nat} {v : Value} (_hb : b < w.heap.size) (hg : (w.alloc x).grownBy w1 q.ownBlock) : Kp b q w (w1.setCell ⟨b, i, none⟩ v) := by
  intro k hk hkb hkq
  rw [Below.heap_setCell w1 _ v k hkb, hg.block k (by simp; omega) (fun e => hkq e.symm)]
  exact Below.heap_alloc w x k hk
theorem kp_own {q q' : Value} {g2 n : Nat} {w : World} (ha : q.ownBlock = some g2 ∨ g2 = n) (hq : ∃ n cap, q' = .slice (some ⟨g2, 0, none⟩) n cap) (hn : w.heap.size ≤ n) : ∀ k, k < w.heap.size → q.ownBlock ≠ some k → q'.ownBlock ≠ some k := by
  intro k hk h e
  obtain ⟨n', cap, rfl⟩ := hq
  have : g2 = k := by simpa [Value.ownBlock] using e
  subst this
  rcases ha with h1 | h1
  · exact h h1
  · omega
theorem kp_size {w w1 : World} {r : Option Nat} {x : Obj} {a : Addr} {v : Value} (hg : (w.alloc x).grownBy w1 r) : w.heap.size ≤ (w1.setCell a v).heap.size := by
  have := hg.size
  simp at this ⊢; omega
def BoPost (B b : Nat) (s : ByteArray) (w : World) (p : Nat) (op : Bool) (T : List Tok) (D : List Int) (q : Value) (n : Nat) (e : Ending) (w' : World) : Prop :=
  e = .returned (.tuple #[]) ∧ (∃ O', O'.length ≤ n + 2 ∧ LS B b s w' p op T D O') ∧ Below B w w' ∧ Kp b q w w' ∧ w.heap.size ≤ w'.heap.size
def BoRel (B b : Nat) (s : ByteArray) (w : World) (p : Nat) (op : Bool) (T : List Tok) (D : List Int) (q : Value) (m : Nat) (_ : Unit) (wx : World) : Prop :=
  ∃ Os x y q', Os.length ≤ m ∧ Os.length ≤ 400 ∧ (∃ o d la co, LV B b s wx p op T D (Os ++ [(x, y)]) o d q' la co) ∧ Below B w wx ∧ Kp b q w wx ∧ (∀ k, k < w.heap.size → q.ownBlock ≠ some k → q'.ownBlock ≠ some k) ∧ w.heap.size ≤ wx.heap.size
set_option maxHeartbeats 8000000 in
theorem bracket_open (B b : Nat) (s ps : ByteArray) (hps : ps.toList = [40]) (p : Nat) (op : Bool) (T : List Tok) (D : List Int) (O : List (Bool × Int)) (o d q : Value) (la co : Bool) (w0 : World) (hO0 : O.length ≤ 400) (h0 : LV B b s w0 p op T D O o d q la co) :
    Calls Tryd.prog 31 #[.pointer (some ⟨b, 0, none⟩), .string ps] w0 (BoPost B b s w0 p op T D q O.length) := by
  go_enter Tryd.func31, Tryd.ntmps31
  apply wp_seq
  refine wp_cut_x (fun _ : Unit => F31 b ps) (BoRel B b s w0 p op T D q O.length) ?_ ?_
  · intro K hK
    have HK := Lib.hid hK; clear hK
    rcases List.eq_nil_or_concat O with rfl | ⟨ts, t, rfl⟩
    · have h := h0
      have HB0 := Lib.hid (lt_of_block h.x)
      obtain ⟨c0, c1, c2, c3, c4, c5, c6, c7, c8⟩ := h.x.cells
      have f6 := h.x.free 6
      have hq : ∃ g cap, q = .slice g 0 cap := by
        rcases h.rq.2 with ⟨h1, _⟩ | ⟨g, cap, cur, h1, _⟩
        · exact ⟨_, _, h1⟩
        · exact ⟨_, _, h1⟩
      obtain ⟨g, cap, rfl⟩ := hq
      obtain ⟨i0, hi, hz0, hz1, hz2⟩ := info_parts info76
      obtain ⟨p1, p2, p3, p4, p5⟩ := LV.pushq h false 0
      have P1 := Lib.hid p1
      have P2 := Lib.hid p2
      have P3 := Lib.hid p3
      have P4 := Lib.hid p4
      have P5 := Lib.hid p5
      clear p1 p2 p3 p4 p5 h
      have HI := Lib.hid hi
      go_wp2_with (at_builtin; refine wpList_append_lies _ rfl _ _ _ rfl B 76 i0 _ 2 16 Tryd.underlying37 hi hz0 hz1 hz2 rfl (by omega) (.slice g 0 cap) 0 _ rfl P1.out ⟨w0.heap.size, 0, none⟩ 1 1 _ rfl rfl P2.out (by simp [Value.oneCell']) (by omega) (by unfold maxLen; omega) (by omega) P3.out (w0.heap.size + 1) (by simp) ?_; intro g2 cap2 w1 hown1 hgrow hat hlt; have HO1 := Lib.hid hown1; have HG1 := Lib.hid hgrow; have HA1 := Lib.hid hat; have hx6 := (P4.out _ hgrow).cells.2.2.2.2.2.2.1; have hf6 := (P4.out _ hgrow).free 6; clear hown1 hgrow hat hlt)
      obtain ⟨⟨V, hV, hL⟩, hB⟩ := P5.out _ _ _ HO1.out HG1.out HA1.out
      exact HK.out () _ _ ⟨[], false, 0, _, by simp, by simp, ⟨_, _, _, _, hL⟩, hB, kp_push HB0.out HG1.out, kp_own HA1.out ⟨_, _, hV⟩ (by simp), kp_size HG1.out⟩ (F31_at _ _ rfl ⟨rfl, rfl, trivial⟩)
    · rw [List.concat_eq_append] at h0 hO0
      have h := h0
      have HB0 := Lib.hid (lt_of_block h.x)
      obtain ⟨c0, c1, c2, c3, c4, c5, c6, c7, c8⟩ := h.x.cells
      obtain ⟨g, cap, rfl, hBg, hgl⟩ := h.rq.form (by simp)
      have HH := Lib.hid h
      simp only [List.length_append, List.length_singleton] at c6 hO0
      have g1 : (((ts.length + 1 : Nat) : Int) == 0) = false := beq_false_of_ne (by omega)
      clear h
      go_wp2
      exact HK.out () _ _ ⟨ts, t.1, t.2, _, by simp, by omega, ⟨_, _, _, _, HH.out⟩, Below.refl _ _, fun _ _ _ _ => rfl, fun _ _ h => h, Nat.le_refl _⟩ (F31_at _ _ rfl ⟨rfl, rfl, trivial⟩)
  rintro _ u w ⟨Os, x, y, q', hOm, hO, ⟨o', d', la', co', h⟩, hBW, hKp, hOw, hSz⟩
  rw [F31_lit]
  unfold Exit.then
  obtain ⟨c0, c1, c2, c3, c4, c5, c6, c7, c8⟩ := h.x.cells
  have f6 := h.x.free 6
  obtain ⟨g, cap, rfl, hBg, hgl⟩ := h.rq.form (by simp)
  have HH := Lib.hid h
  have HBW := Lib.hid hBW; clear hBW
  have HKP := Lib.hid hKp; clear hKp
  have HOW := Lib.hid hOw; clear hOw
  have hlb := lt_of_block HH.out.x
  obtain ⟨n, hn⟩ : ∃ n, Os.length = n := ⟨_, rfl⟩
  have HN := Lib.hid hn
  simp only [List.length_append, List.length_singleton] at c6
  rw [hn] at c6 hO hOm
  clear h hn
  have g1 : (((n + 1 : Nat) : Int) == 0) = false := beq_false_of_ne (by omega)
  have w1 : IntKind.i64.wrap (((n + 1 : Nat) : Int) - 1) = n := by rw [show ((n + 1 : Nat) : Int) - 1 = n by omega]; exact IntWalk.i64_in _ (by omega)
  have a123 : (ps.toList == [123]) = false := by rw [hps]; rfl
  have a40 : (ps.toList == [40]) = true := by rw [hps]; rfl
  obtain ⟨i0, hi, hz0, hz1, hz2⟩ := info_parts info76
  obtain ⟨p1, p2, p3, p4, p5⟩ := LV.pushq HH.out true 0
  simp only [List.length_append, List.length_singleton, HN.out] at p1 p4 p5
  have P1 := Lib.hid p1
  have P2 := Lib.hid p2
  have P3 := Lib.hid p3
  have P4 := Lib.hid p4
  have P5 := Lib.hid p5
  clear p1 p2 p3 p4 p5 hps
  have HI := Lib.hid hi
  go_wp2_with (at_builtin; refine wpList_append_lies _ rfl _ _ _ rfl B 76 i0 _ 2 16 Tryd.underlying37 hi hz0 hz1 hz2 rfl (by omega) (.slice (some ⟨g, 0, none⟩) (n + 1) cap) (n + 1) _ rfl P1.out ⟨w.heap.size, 0, none⟩ 1 1 _ rfl rfl P2.out (by simp [Value.oneCell']) (by omega) (by unfold maxLen; omega) (by omega) P3.out (w.heap.size + 1) (by simp) ?_; intro g2 cap2 w1 hown1 hgrow hat hlt; have HO1 := Lib.hid hown1; have HG1 := Lib.hid hgrow; have HA1 := Lib.hid hat; have hx6 := (P4.out _ hgrow).cells.2.2.2.2.2.2.1; have hf6 := (P4.out _ hgrow).free 6; clear hown1 hgrow hat hlt)
  go_end0
  obtain ⟨⟨V, hV, hL⟩, hB⟩ := P5.out _ _ _ HO1.out HG1.out HA1.out
  refine ⟨rfl, ⟨_, by have := HN.out; simp; omega, _, _, _, _, _, hL⟩, HBW.out.trans hB, ?_, ?_⟩
  · intro k hk hkb hkq
    exact (kp_push hlb HG1.out k (by omega) hkb (HOW.out k hk hkq)).trans (HKP.out k hk hkb hkq)
  · exact Nat.le_trans hSz (kp_size HG1.out)
set_option maxRecDepth 100000

/-- the last open brace's count is set -/
theorem LV.setd {B b : Nat} {s : ByteArray} {w : World} {p : Nat} {op : Bool} {T : List Tok} {D : List Int} {y : Int} {O : List (Bool × Int)} {o q : Value} {la co : Bool} {g n' cap : Nat}
    (h : LV B b s w p op T (D ++ [y]) O o (.slice (some ⟨g, 0, none⟩) n' cap) q la co) (y' : Int) :
    LV B b s (w.setCell ⟨g, D.length, none⟩ (.int .i64 y')) p op T (D ++ [y']) O o (.slice (some ⟨g, 0, none⟩) n' cap) q la co := by
  have hd := row_setc h.rd (g := g) rfl D.length (.int .i64 y')
  have e : (dcs (D ++ [y])).set D.length (.int .i64 y') = dcs (D ++ [y']) := by
    simp only [dcs, List.map_append, List.map_cons, List.map_nil]
    rw [List.set_append_right _ _ (by simp)]
    simp
  rw [e] at hd
  have hg := gb_set (b := g) (World.grownBy.refl w _) D.length (.int .i64 y')
  have hgb : g ≠ b := fun e => h.ap.db (by simp [Value.ownBlock, e])
  have kr1 : o.ownBlock = none ∨ o.ownBlock ≠ some g := by
    cases e : o.ownBlock with
    | none => exact .inl rfl
    | some k => exact .inr fun e2 => h.ap.od k e (by rw [e2]; rfl)
  have kr2 : q.ownBlock = none ∨ q.ownBlock ≠ some g := .inr (h.ap.dq g rfl)
  refine ⟨(hg.block b (lt_of_block h.x) (by simp; exact fun e => hgb e.symm)).trans h.x, h.ro.kept hg kr1, ?_, h.rq.kept hg kr2, h.ap, h.bb, by simpa using h.bw⟩
  have el : (D ++ [y']).length = (D ++ [y]).length := by simp
  rw [el]; exact hd
theorem info69 : (Tryd.prog.info? 69).map (·.size) = some 57 := by kernel_rfl
theorem und69 : Tryd.prog.underlying 69 = some (.array 57 9) := by kernel_rfl
theorem info9 : (Tryd.prog.info? 9).map (·.size) = some 1 := by kernel_rfl
theorem idx69 {cs : Array Value} {k : Nat} {ps : ByteArray} (hk : k < 57) (h : cs[k]? = some (.string ps)) (W : World) :
    (Instr.index 69 (.agg cs) (.int .i64 k)).run Tryd.prog W = .ok (.string ps) W := by
  obtain ⟨i, hi, hz⟩ : ∃ i, Tryd.prog.info? 9 = some i ∧ i.size = 1 := by
    have := info9
    cases e : Tryd.prog.info? 9 with
    | none => rw [e] at this; exact absurd this (by simp)
    | some i => rw [e] at this; exact ⟨i, rfl, by simpa using this⟩
  have hc : 0 ≤ (k : Int) ∧ (k : Int) < (57 : Nat) := by omega
  simp [Instr.index, asIntOf, run_underlying und69, run_underlying Tryd.underlying9, sizeOf, typeInfo, hi, hz, part, isAgg, h, hk, go_sem]
theorem dd (w : World) (m n : Nat) : (w.drewN m).drewN n = w.drewN (m + n) := by simp [World.drewN, Nat.add_assoc]
/-- what the walk asks of a place two on, three on -/
theorem idx2 {s : ByteArray} {k : Nat} (hs : s.size ≤ 100) (h : k + 2 < s.size) :
    decide ((k : Int) + 2 < s.size) = true ∧ (k : Int) + 2 < s.size ∧ (0 : Int) ≤ k + 2 ∧ ((k : Int) + 2).toNat = k + 2 ∧ IntKind.i64.wrap ((k : Int) + 2) = k + 2 :=
  ⟨by simpa using (by omega), by omega, by omega, by omega, IntWalk.i64_in _ (by omega)⟩
theorem slice_form {B : Nat} {w : World} {e : TypeId} {size : Nat} {v : Value} {n : Nat} {xs : List Value} (h : w.ownsRow B e size v n xs) : ∃ g cap, v = .slice g n cap := by
  rcases h.2 with ⟨h1, h2⟩ | ⟨g, cap, cur, h1, _⟩
  · exact ⟨none, 0, by rw [h1, h2]⟩
  · exact ⟨_, _, h1⟩
/-- the signs, as they are laid -/
def PunE (w : World) : Prop := ∃ cs t fr, w.heap[2]? = some (.cells cs t fr) ∧ cs.size = 57 ∧ ∀ k, k < 57 → ∃ ps : ByteArray, cs[k]? = some (.string ps) ∧ 1 ≤ ps.size ∧ ps.size ≤ 4
end Go.Proofs.YtblphppdfiipfaaDoor
