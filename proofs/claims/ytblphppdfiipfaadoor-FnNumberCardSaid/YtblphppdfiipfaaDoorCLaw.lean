/- The law answers true at every text, where the tables are as laid. Conditions: the tables are as laid. -/
import Derived.Test.YtblphppdfiipfaaDoorCLex
import Derived.Test.YtblphppdfiipfaaDoorCMinG
import Derived.Test.YtblphppdfiipfaaDoorCMinB
import Derived.Lib.RuneCount
import Derived.Lib.QuoteLoop
namespace Go.Proofs.YtblphppdfiipfaaDoor
open Go.RowKit
set_option maxRecDepth 100000

/-- the tables, as they are laid -/
structure Tabs (w : World) : Prop where
  u : Lib.Utf8Tabs 0 1 w
  e : ErE w
  f : FlE w
  x : SlX w
  p : PunE w
theorem Tabs.below {w w' : World} (h : Tabs w) (hb : Below w.heap.size w w') : Tabs w' := by
  have hg := gb_of_below hb none
  refine ⟨Utf8Tabs_below h.u hb, h.e.later hg, ⟨h.f.1.later hg, ⟨gbn_cell hg h.f.2.1.1, ?_⟩, gbn_cell hg h.f.2.2⟩, h.x.later hg, ?_⟩
  · obtain ⟨a, cap, h1, h2⟩ := h.f.2.1.2
    exact ⟨a, cap, gbn_cell hg h1, fun i hi => gbn_cell hg (h2 i hi)⟩
  · obtain ⟨cs, t, fr, h1, h2⟩ := h.p
    exact ⟨cs, t, fr, (hb.block 2 (lt_of_block h1)).trans h1, h2⟩
/-- the world since the call began -/
def Tw (W w : World) : Prop := Below W.heap.size W w
theorem Tw.dec {W : World} (h : Tabs W) : DecSaid (Tw W) := fun s w hw hs => by
  refine (Tryd.utf8_DecodeRuneInString s w (h.below hw).u).mono fun e w' ⟨he, hb⟩ => ⟨⟨_, _, he, ?_, ?_⟩, hb⟩
  · unfold Lib.decodeGo
    rw [if_neg (by omega)]
    exact Lib.decode_width_pos s 0 hs
  · unfold Lib.decodeGo
    rw [if_neg (by omega)]
    exact Lib.width_le s hs
theorem Tw.pu {W : World} (h : Tabs W) : PuSaid (Tw W) := fun s k n w hw hs hk => pu_any s k n w hs hk.1 hk.2 (h.below hw).e
theorem Tw.pf {W : World} (h : Tabs W) : PfSaid (Tw W) := fun t q ex w hw hs h1 h2 h3 h4 =>
  pfs_any t _ w hs (h.below hw).e (atof_any t q ex w (h.below hw).f (h.below hw).x hs h2 h1 h3 h4)
theorem Tw.nof {W : World} (h : Tabs W) (s : ByteArray) (hs : s.size ≤ 100) (w : World) (hw : Tw W w) : Calls Tryd.prog 4 #[.string s] w (NofPost W.heap.size s w) :=
  nof_any W.heap.size s w (lex_any W.heap.size (Tw W) (fun _ _ h1 h2 => h2.trans h1) (fun _ h => h.size) (Tw.dec h) (Tw.pu h) (Tw.pf h) (fun _ hw => (h.below hw).p) s
    (fun w hw => Tryd.utf8_ValidString s w (by omega) (h.below hw).u) hs w hw)

set_option maxHeartbeats 2000000 in
theorem fn_any (s : ByteArray) (W : World) (h : Tabs W) : Calls Tryd.prog 3 #[.string s] W fun e w' => e = .returned (.bool true) ∧ Below W.heap.size W w' := by
  by_cases h1 : s.size > 2147483647
  · have g1 : decide ((s.size : Int) > 2147483647) = true := decide_eq_true (by omega)
    clear h
    go_enter Tryd.func3, Tryd.ntmps3
    go_wp2_with fail
    go_ret
    exact ⟨rfl, Below.refl _ _⟩
  have g1 : decide ((s.size : Int) > 2147483647) = false := decide_eq_false (by omega)
  by_cases h2 : s.size > 100
  · have g2 : decide ((s.size : Int) > 100) = true := decide_eq_true (by omega)
    clear h
    go_enter Tryd.func3, Tryd.ntmps3
    go_wp2_with fail
    go_ret
    exact ⟨rfl, Below.refl _ _⟩
  have g2 : decide ((s.size : Int) > 100) = false := decide_eq_false (by omega)
  have hs : s.size ≤ 100 := by omega
  have HN := Lib.hid fun (t : ByteArray) (ht : t.size ≤ 100) (w : World) (hw : Tw W w) => Tw.nof h t ht w hw
  have HD := Lib.hid fun w => decimal_any s w hs
  have HI := Lib.hid fun w (hL : Lit s) (hx : dct s s.size ≤ 4) => inum_any s w hs hL hx
  have HS := Lib.hid hs
  clear h h1 h2 hs
  go_enter Tryd.func3, Tryd.ntmps3
  go_wp2_with (go_at_call 4; refine (HN.out s HS.out _ (Below.refl _ _)).mono ?_; rintro e1 w1 ⟨f, ok, rfl, hB1, ha, hb⟩; have HB1 := Lib.hid hB1; have HA := Lib.hid ha; have HB := Lib.hid hb; clear hB1 ha hb; cases ok)
  · go_ret
    exact ⟨rfl, HB1.out⟩
  have hA := HA.out trivial
  have HA2 := Lib.hid hA
  clear hA HA
  have g3 : Hid (Lit s → (FloatKind.f64.format.order (numL s) (numL s) == some .eq) = true) := Lib.hid fun hL => by
    show (Ieee.double.order (numL s) (numL s) == some .eq) = true
    rw [num_order HS.out hL]; rfl
  go_wp2_with (go_at_call 5; refine (HD.out _).mono ?_; rintro e2 w2 ⟨bd, rfl, rfl, hd⟩; have HDD := Lib.hid hd; clear hd; cases bd)
  · go_ret
    exact ⟨rfl, HB1.out⟩
  obtain ⟨hd1, hd2⟩ := HDD.out trivial
  obtain ⟨hL, rfl⟩ := HA2.out hd2
  have HL := Lib.hid hL
  have HD1 := Lib.hid hd1
  have g3 := g3.out hL
  clear HDD HA2 hd1 hd2 hL
  refine (HI.out _ HL.out HD1.out).mono ?_
  rintro e3 w3 ⟨t, rfl, hg, hLt, hnum, hsz⟩
  have HT := Lib.hid hLt
  have HNUM := Lib.hid hnum
  have HB3 : Hid (Tw W w3) := Lib.hid (HB1.out.trans (bel_grow (B := W.heap.size) hg HB1.out.size (by simp)))
  have g4 : decide (t.size ≤ s.size) = true := decide_eq_true hsz
  have HC := Lib.hid (HN.out t (by have := HS.out; omega) _ HB3.out)
  clear hg hLt hnum hsz
  obtain ⟨f, hf⟩ : ∃ f, numL s = f := ⟨_, rfl⟩
  rw [hf] at g3 HNUM ⊢
  clear hf
  go_wp2_with (go_at_call 4; refine HC.out.mono ?_; rintro e4 w4 ⟨f2, ok2, rfl, hB4, -, hb2⟩; have HB4 := Lib.hid hB4; obtain ⟨rfl, hf2⟩ := hb2 HT.out; rw [HNUM.out] at hf2; subst hf2; clear hB4)
  go_ret
  exact ⟨rfl, HB3.out.trans HB4.out⟩
end Go.Proofs.YtblphppdfiipfaaDoor
