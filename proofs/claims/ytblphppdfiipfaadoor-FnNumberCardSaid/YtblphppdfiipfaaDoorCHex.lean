/- The lexer takes a character, and hex digits. Conditions: none. -/
import Derived.Test.YtblphppdfiipfaaDoorCSpace
import Derived.Deep.RegionWith
import Derived.Deep.RegionHeld3
import Derived.Deep.DeepMust
import Derived.StillTailTactics
namespace Go.Proofs.YtblphppdfiipfaaDoor
open Go.RowKit

theorem bel_drewN (B : Nat) (w : World) (n : Nat) : Below B w (w.drewN n) := ⟨rfl, rfl, rfl, Nat.le_refl _, fun _ _ => rfl⟩
theorem LX.later {w w' : World} {b : Nat} {s : ByteArray} {p : Int} {o d : Value} {op : Bool} {q : Value} {la co : Bool} (h : LX w b s p o d op q la co) (hB : Below w.heap.size w w') : LX w' b s p o d op q la co :=
  (hB.block b (lt_of_block h)).trans h
theorem gb_of_below {w w' : World} (hB : Below w.heap.size w w') (r : Option Nat) : w.grownBy w' r := ⟨hB.os, hB.tape, hB.output, hB.size, fun k hk _ => hB.block k hk⟩

/-- the decoder's contract -/
def DecSaid (T : World → Prop) : Prop := ∀ (s : ByteArray) (w : World), T w → 0 < s.size →
  Calls Tryd.prog 33 #[.string s] w fun e w' => (∃ r k : Nat, e = .returned (.tuple #[.int .i32 r, .int .i64 k]) ∧ 1 ≤ k ∧ k ≤ s.size) ∧ Below w.heap.size w w'

theorem enc_size (r : Int) : (Utf8.encode r).size ≤ 4 := by
  unfold Utf8.encode
  simp only
  repeat' split
  all_goals simp [ByteArray.size]

def RunePost (w : World) (b : Nat) (s : ByteArray) (p : Nat) (o d : Value) (op : Bool) (q : Value) (la co : Bool) (e : Ending) (w' : World) : Prop :=
  ∃ (x : ByteArray) (p' : Nat), e = .returned (.string x) ∧ x.size ≤ 4 ∧ p < p' ∧ p' ≤ s.size ∧ w.grownBy w' (some b) ∧ LX w' b s p' o d op q la co

set_option maxRecDepth 100000
set_option maxHeartbeats 1000000 in
theorem rune_any (T : World → Prop) (hT : ∀ w w' : World, Below w.heap.size w w' → T w → T w') (hD : DecSaid T) (b : Nat) (s : ByteArray) (p : Nat) (o d : Value) (op : Bool) (q : Value) (la co : Bool) (w : World) (hs : s.size ≤ 100) (hp : p < s.size) (hX : LX w b s p o d op q la co) (hw : T w) :
    Calls Tryd.prog 24 #[.pointer (some ⟨b, 0, none⟩)] w (RunePost w b s p o d op q la co) := by
  obtain ⟨c0, c1, _, _, c4, c5, _, _, _⟩ := hX.cells
  have f1 := hX.free 1
  have HX := Lib.hid hX; clear hX
  have hp0 : (p : Int) ≤ s.size := by omega
  have hz : 0 < (s.extract p s.size).size := by simp; omega
  have HC := Lib.hid (hD (s.extract p s.size) w.drew (hT _ _ (Below.refl _ _).drew hw) hz)
  have hle : (s.extract p s.size).size = s.size - p := by simp
  have HLE := Lib.hid hle
  clear hle hz
  go_enter Tryd.func24, Tryd.ntmps24
  go_wp2
  go_region_with (go_at_call 33; refine HC.out.mono ?_; rintro e w' ⟨⟨r, k, rfl, hk1, hk2⟩, hB⟩)
  all_goals
    have hL := LX.later (w := w) HX.out (show Below w.heap.size w w' from ⟨hB.os, hB.tape, hB.output, hB.size, hB.block⟩)
    have hG := gb_of_below (show Below w.heap.size w w' from ⟨hB.os, hB.tape, hB.output, hB.size, hB.block⟩) (some b)
    clear c0 c1 c4 c5 f1 hB
    rw [HLE.out] at hk2
    obtain ⟨c0, c1, _, _, c4, c5, _, _, _⟩ := hL.cells
    have f1 := hL.free 1
    have HL := Lib.hid hL; clear hL
    have HG := Lib.hid hG; clear hG
    go_wp2
  all_goals
    go_ret
    exact ⟨_, p + k, rfl, enc_size _, by omega, by omega, gb_set HG.out _ _, LX.set1 (p := p) (by exact HL.out) _⟩

/-- 2 to the 64, behind a name -/
def P64 : Nat := 18446744073709551616
/-- strconv.ParseUint's contract, as far as it is asked -/
def PuPost (w : World) (e : Ending) (w' : World) : Prop :=
  ∃ (v : Nat) (er : Value), e = .returned (.tuple #[.int .u64 v, er]) ∧ v < P64 ∧ (er = .nilIface ∨ ∃ t x, er = .iface t x) ∧ Below w.heap.size w w'
def PuSaid (T : World → Prop) : Prop := ∀ (s : ByteArray) (k n : Int) (w : World), T w → s.size ≤ 100 → ((k = 16 ∨ k = 8 ∨ k = 2) ∧ (n = 32 ∨ n = 64)) →
  Calls Tryd.prog 29 #[.string s, .int .i64 k, .int .i64 n] w (PuPost w)

/-- the captured variable -/
def BoxL (w : World) (bx b : Nat) : Prop := w.heap[bx]? = some (.cells #[.pointer (some ⟨b, 0, none⟩)] 35 (0, 0))
theorem BoxL.later {w w' : World} {bx b : Nat} (h : BoxL w bx b) (hB : Below w.heap.size w w') : BoxL w' bx b := (hB.block bx (lt_of_block h)).trans h

def HexPost (w : World) (b : Nat) (s : ByteArray) (p k : Nat) (o d : Value) (op : Bool) (q : Value) (la co : Bool) (e : Ending) (w' : World) : Prop :=
  ∃ (x : ByteArray) (p' : Nat) (ok : Bool), e = .returned (.tuple #[.string x, .bool ok]) ∧ x.size ≤ 4 ∧ p ≤ p' ∧ p' ≤ p + k ∧ p' ≤ s.size ∧ w.grownBy w' (some b) ∧ LX w' b s p' o d op q la co

def F34 (bx k : Nat) (x : Nat × Value) : (Nat → Value) → Act := FG 66 [(0, .int .i64 k), (1, .pointer (some ⟨bx, 0, none⟩)), (5, .int .u64 x.1), (6, x.2)]
theorem F34_lit (bx k : Nat) (x : Nat × Value) (u : Nat → Value) : F34 bx k  x u = { tmps := #[.int .i64 k, .pointer (some ⟨bx, 0, none⟩), u 2, u 3, u 4, .int .u64 x.1, x.2, u 7, u 8, u 9, u 10, u 11, u 12, u 13, u 14, u 15, u 16, u 17, u 18, u 19, u 20, u 21, u 22, u 23, u 24, u 25, u 26, u 27, u 28, u 29, u 30, u 31, u 32, u 33, u 34, u 35, u 36, u 37, u 38, u 39, u 40, u 41, u 42, u 43, u 44, u 45, u 46, u 47, u 48, u 49, u 50, u 51, u 52, u 53, u 54, u 55, u 56, u 57, u 58, u 59, u 60, u 61, u 62, u 63, u 64, u 65], defers := [] } := by kernel_rfl
theorem F34_at (bx k : Nat) (x : Nat × Value) {L : List Value} (hl : L.length = 66) (hn : NmOk L [(0, .int .i64 k), (1, .pointer (some ⟨bx, 0, none⟩)), (5, .int .u64 x.1), (6, x.2)]) : (F34 bx k  x fun k => (Act.mk L.toArray []).tmps.getD k undef) = { tmps := L.toArray, defers := [] } := FG_at hl hn

set_option maxHeartbeats 1000000 in
theorem hex_any (T : World → Prop) (hT : ∀ w w' : World, Below w.heap.size w w' → T w → T w') (hU : PuSaid T) (bx b : Nat) (s : ByteArray) (p k : Nat) (o d : Value) (op : Bool) (q : Value) (la co : Bool) (w : World) (hs : s.size ≤ 100) (hp : p ≤ s.size) (hk : k ≤ 100)
    (hX : LX w b s p o d op q la co) (hb : BoxL w bx b) (hw : T w) :
    Calls Tryd.prog 34 #[.int .i64 k, .pointer (some ⟨bx, 0, none⟩)] w (HexPost w b s p k o d op q la co) := by
  obtain ⟨c0, c1, _, _, c4, c5, _, _, _⟩ := hX.cells
  have f1 := hX.free 1
  have x0 := cell_of_one hb
  have hlb := lt_of_block hX
  have hlx := lt_of_block hb
  have HX := Lib.hid hX; clear hX
  have HB := Lib.hid hb; clear hb
  by_cases hlt : p + k ≤ s.size
  · have w1 : IntKind.i64.wrap ((p : Int) + k) = p + k := IntWalk.i64_in _ (by omega)
    have w2 : (0 : Int) ≤ p + k := by omega
    have w3 : (p : Int) + k ≤ s.size := by omega
    have w4 : ((p : Int) + k).toNat = p + k := by omega
    have w5 : decide ((s.size : Int) < (p : Int) + k) = false := by simpa using (by omega)
    have w6 : (p : Int) ≤ p + k := by omega
    have HC := Lib.hid (fun w2 : World => fun h : T w2 => hU (s.extract p (p + k)) 16 32 w2 h (by simp; omega) (by simp))
    go_enter Tryd.func34, Tryd.ntmps34
    go_wp2
    go_quiet (fail)
    go_wp2
    refine wp_cut_x (F34 bx k) (fun x w' => x.1 < P64 ∧ (x.2 = .nilIface ∨ ∃ t y, x.2 = .iface t y) ∧ Below w.heap.size w w') ?_ ?_
    · intro K hK
      have HK := Lib.hid hK; clear hK
      go_region_held3 (fun w' => w'.cell? ⟨b, 0, none⟩ = some (.string s) ∧ w'.cell? ⟨b, 1, none⟩ = some (.int .i64 p) ∧ w'.cell? ⟨bx, 0, none⟩ = some (.pointer (some ⟨b, 0, none⟩)) ∧ Below w.heap.size w w')
        (first | exact ⟨c0, c1, x0, Below.refl _ _⟩ | exact ⟨c0, c1, x0, ⟨rfl, rfl, rfl, Nat.le_refl _, fun _ _ => rfl⟩⟩ | exact ⟨(hB'.cell hlb).trans c0, (hB'.cell hlb).trans c1, (hB'.cell hlx).trans x0, hB'⟩ | go_keep)
        ((go_at_call 29; refine (HC.out _ (hT w _ (bel_drewN _ _ _) hw)).mono ?_; rintro e w' ⟨v, er, rfl, hv, her, hB⟩; have hB' := (show Below w.heap.size w w' from ⟨hB.os, hB.tape, hB.output, hB.size, hB.block⟩)))
      exact HK.out (v, er) _ _ ⟨hv, her, hB'⟩ (F34_at _ _ _ rfl ⟨rfl, rfl, rfl, rfl, trivial⟩)
    · rintro ⟨v, er⟩ u w' ⟨hv, her, hB'⟩
      simp only at hv her
      have hL := LX.later HX.out hB'
      have hb := BoxL.later HB.out hB'
      have hG := gb_of_below hB' (some b)
      clear c0 c1 c4 c5 f1 x0 hB' w1 w2 w3 w4 w5 w6 HC
      obtain ⟨c0, c1, _, _, c4, c5, _, _, _⟩ := hL.cells
      have f1 := hL.free 1
      have x0 := cell_of_one hb
      have HL := Lib.hid hL; clear hL
      have HG := Lib.hid hG; clear hG
      clear hb
      rw [F34_lit]
      rcases her with rfl | ⟨t, x, rfl⟩
      · clear hv
        by_cases h1 : 55296 ≤ (v : Int)
        · have e1 : decide (55296 ≤ (v : Int)) = true := decide_eq_true h1
          clear h1
          by_cases h2 : (v : Int) < 57344
          · have e2 : decide ((v : Int) < 57344) = true := decide_eq_true h2
            clear h2
            go_wp2
            go_ret2
            exact ⟨_, p + k, true, rfl, enc_size _, by omega, by omega, hlt, gb_set HG.out _ _, LX.set1 (p := p) (by exact HL.out) _⟩
          · have e2 : decide ((v : Int) < 57344) = false := decide_eq_false h2
            clear h2
            go_wp2
            go_ret2
            exact ⟨_, p + k, true, rfl, enc_size _, by omega, by omega, hlt, gb_set HG.out _ _, LX.set1 (p := p) (by exact HL.out) _⟩
        · have e1 : decide (55296 ≤ (v : Int)) = false := decide_eq_false h1
          clear h1
          go_wp2
          go_ret2
          exact ⟨_, p + k, true, rfl, enc_size _, by omega, by omega, hlt, gb_set HG.out _ _, LX.set1 (p := p) (by exact HL.out) _⟩
      · go_wp2_with fail
        go_ret2
        exact ⟨_, p, false, rfl, by decide, by omega, by omega, hp, HG.out, HL.out⟩
  · have w1 : IntKind.i64.wrap ((p : Int) + k) = p + k := IntWalk.i64_in _ (by omega)
    have w5 : decide ((s.size : Int) < (p : Int) + k) = true := by simpa using (by omega)
    go_enter Tryd.func34, Tryd.ntmps34
    go_wp2
    go_quiet (fail)
    go_wp2
    go_ret2
    exact ⟨_, p, false, rfl, by decide, by omega, by omega, hp, ⟨rfl, rfl, rfl, Nat.le_refl _, fun _ _ _ => rfl⟩, HX.out⟩
end Go.Proofs.YtblphppdfiipfaaDoor
