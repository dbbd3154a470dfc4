/- The lexer goes over blanks and comments. Conditions: none. -/
import Derived.Test.YtblphppdfiipfaaDoorCKit
namespace Go.Proofs.YtblphppdfiipfaaDoor
open Go.RowKit

/-- the lexer's block -/
def LX (w : World) (b : Nat) (s : ByteArray) (p : Int) (o d : Value) (op : Bool) (q : Value) (la co : Bool) : Prop :=
  w.heap[b]? = some (.cells #[.string s, .int .i64 p, o, d, .bool op, .bool true, q, .bool la, .bool co] 39 (0, 0))

/-- a blank, a line's end or a slash -/
def blank (c : UInt8) : Prop := (c.toNat : Int) = 32 ∨ (c.toNat : Int) = 9 ∨ (c.toNat : Int) = 10 ∨ (c.toNat : Int) = 13 ∨ (c.toNat : Int) = 47

theorem LX.cells {w : World} {b : Nat} {s : ByteArray} {p : Int} {o d : Value} {op : Bool} {q : Value} {la co : Bool} (h : LX w b s p o d op q la co) :
    w.cell? ⟨b, 0, none⟩ = some (.string s) ∧ w.cell? ⟨b, 1, none⟩ = some (.int .i64 p) ∧ w.cell? ⟨b, 2, none⟩ = some o ∧ w.cell? ⟨b, 3, none⟩ = some d ∧ w.cell? ⟨b, 4, none⟩ = some (.bool op) ∧ w.cell? ⟨b, 5, none⟩ = some (.bool true) ∧ w.cell? ⟨b, 6, none⟩ = some q ∧ w.cell? ⟨b, 7, none⟩ = some (.bool la) ∧ w.cell? ⟨b, 8, none⟩ = some (.bool co) := by
  unfold LX at h
  refine ⟨?_, ?_, ?_, ?_, ?_, ?_, ?_, ?_, ?_⟩ <;> simp [World.cell?, h]
theorem LX.free {w : World} {b : Nat} {s : ByteArray} {p : Int} {o d : Value} {op : Bool} {q : Value} {la co : Bool} (h : LX w b s p o d op q la co) (i : Nat) :
    w.frozen? ⟨b, i, none⟩ = false := by
  unfold LX at h
  simp [World.frozen?, h]


theorem LX.drewN {w : World} {b : Nat} {s : ByteArray} {p : Int} {o d : Value} {op : Bool} {q : Value} {la co : Bool} (h : LX w b s p o d op q la co) (n : Nat) : LX (w.drewN n) b s p o d op q la co := h
theorem LX.set {w : World} {b : Nat} {s : ByteArray} {p : Int} {o d : Value} {op : Bool} {q : Value} {la co : Bool} (h : LX w b s p o d op q la co) (i : Nat) (v : Value) :
    (w.setCell ⟨b, i, none⟩ v).heap[b]? = some (.cells (#[.string s, .int .i64 p, o, d, .bool op, .bool true, q, .bool la, .bool co].set! i v) 39 (0, 0)) := by
  have hlt := lt_of_block h
  unfold LX at h
  rw [Array.getElem?_eq_getElem hlt, Option.some.injEq] at h
  show (w.heap.modify b _)[b]? = _
  rw [Array.getElem?_eq_getElem (by simpa using hlt), Array.getElem_modify_self, h]
  rfl
theorem LX.set1 {w : World} {b : Nat} {s : ByteArray} {p : Int} {o d : Value} {op : Bool} {q : Value} {la co : Bool} (h : LX w b s p o d op q la co) (p' : Int) : LX (w.setCell ⟨b, 1, none⟩ (.int .i64 p')) b s p' o d op q la co := h.set 1 _
theorem LX.set2 {w : World} {b : Nat} {s : ByteArray} {p : Int} {o d : Value} {op : Bool} {q : Value} {la co : Bool} (h : LX w b s p o d op q la co) (v : Value) : LX (w.setCell ⟨b, 2, none⟩ v) b s p v d op q la co := h.set 2 _
theorem LX.set3 {w : World} {b : Nat} {s : ByteArray} {p : Int} {o d : Value} {op : Bool} {q : Value} {la co : Bool} (h : LX w b s p o d op q la co) (v : Value) : LX (w.setCell ⟨b, 3, none⟩ v) b s p o v op q la co := h.set 3 _
theorem LX.set4 {w : World} {b : Nat} {s : ByteArray} {p : Int} {o d : Value} {op : Bool} {q : Value} {la co : Bool} (h : LX w b s p o d op q la co) (v : Bool) : LX (w.setCell ⟨b, 4, none⟩ (.bool v)) b s p o d v q la co := h.set 4 _
theorem LX.set6 {w : World} {b : Nat} {s : ByteArray} {p : Int} {o d : Value} {op : Bool} {q : Value} {la co : Bool} (h : LX w b s p o d op q la co) (v : Value) : LX (w.setCell ⟨b, 6, none⟩ v) b s p o d op v la co := h.set 6 _
theorem LX.set7 {w : World} {b : Nat} {s : ByteArray} {p : Int} {o d : Value} {op : Bool} {q : Value} {la co : Bool} (h : LX w b s p o d op q la co) (v : Bool) : LX (w.setCell ⟨b, 7, none⟩ (.bool v)) b s p o d op q v co := h.set 7 _
theorem LX.set8 {w : World} {b : Nat} {s : ByteArray} {p : Int} {o d : Value} {op : Bool} {q : Value} {la co : Bool} (h : LX w b s p o d op q la co) (v : Bool) : LX (w.setCell ⟨b, 8, none⟩ (.bool v)) b s p o d op q la v := h.set 8 _

set_option maxHeartbeats 400000 in
theorem marked_any (c : Int) (b : Nat) (w : World) (hl : w.cell? ⟨b, 5, none⟩ = some (.bool true)) :
    Calls Tryd.prog 16 #[.pointer (some ⟨b, 0, none⟩), .int .u8 c] w fun e w' => e = .returned (.bool (decide (128 ≤ c))) ∧ w' = w := by
  by_cases h1 : 128 ≤ c
  all_goals
    go_enter Tryd.func16, Tryd.ntmps16
    go_wp2
    go_ret
    exact ⟨by simp [*], rfl⟩

def sg243_6 (u : Nat → Value) : List Value := u 6 :: u 7 :: u 8 :: u 9 :: u 10 :: u 11 :: u 12 :: u 13 :: u 14 :: u 15 :: u 16 :: u 17 :: u 18 :: u 19 :: u 20 :: u 21 :: u 22 :: u 23 :: u 24 :: u 25 :: u 26 :: u 27 :: u 28 :: u 29 :: u 30 :: u 31 :: u 32 :: u 33 :: u 34 :: u 35 :: u 36 :: u 37 :: u 38 :: u 39 :: u 40 :: u 41 :: u 42 :: u 43 :: u 44 :: u 45 :: u 46 :: u 47 :: u 48 :: u 49 :: u 50 :: u 51 :: u 52 :: u 53 :: u 54 :: u 55 :: u 56 :: u 57 :: u 58 :: u 59 :: u 60 :: u 61 :: u 62 :: u 63 :: u 64 :: u 65 :: u 66 :: u 67 :: u 68 :: u 69 :: u 70 :: u 71 :: u 72 :: u 73 :: u 74 :: u 75 :: u 76 :: u 77 :: u 78 :: u 79 :: u 80 :: u 81 :: u 82 :: u 83 :: u 84 :: u 85 :: u 86 :: u 87 :: u 88 :: u 89 :: u 90 :: u 91 :: u 92 :: u 93 :: u 94 :: u 95 :: u 96 :: u 97 :: u 98 :: u 99 :: u 100 :: u 101 :: u 102 :: u 103 :: u 104 :: u 105 :: u 106 :: u 107 :: u 108 :: u 109 :: u 110 :: u 111 :: u 112 :: u 113 :: u 114 :: u 115 :: u 116 :: u 117 :: u 118 :: u 119 :: u 120 :: u 121 :: u 122 :: u 123 :: u 124 :: u 125 :: u 126 :: u 127 :: u 128 :: u 129 :: u 130 :: u 131 :: u 132 :: u 133 :: u 134 :: u 135 :: u 136 :: u 137 :: u 138 :: u 139 :: u 140 :: u 141 :: u 142 :: u 143 :: u 144 :: u 145 :: u 146 :: u 147 :: u 148 :: u 149 :: u 150 :: u 151 :: u 152 :: u 153 :: u 154 :: u 155 :: u 156 :: u 157 :: u 158 :: u 159 :: u 160 :: u 161 :: u 162 :: u 163 :: u 164 :: u 165 :: u 166 :: u 167 :: u 168 :: u 169 :: u 170 :: u 171 :: u 172 :: u 173 :: u 174 :: u 175 :: u 176 :: u 177 :: u 178 :: u 179 :: u 180 :: u 181 :: u 182 :: u 183 :: u 184 :: u 185 :: u 186 :: u 187 :: u 188 :: u 189 :: u 190 :: u 191 :: u 192 :: u 193 :: u 194 :: u 195 :: u 196 :: u 197 :: u 198 :: u 199 :: u 200 :: u 201 :: u 202 :: u 203 :: u 204 :: u 205 :: u 206 :: u 207 :: u 208 :: u 209 :: u 210 :: u 211 :: u 212 :: u 213 :: u 214 :: u 215 :: u 216 :: u 217 :: u 218 :: u 219 :: u 220 :: u 221 :: u 222 :: u 223 :: u 224 :: u 225 :: u 226 :: u 227 :: u 228 :: u 229 :: u 230 :: u 231 :: u 232 :: u 233 :: u 234 :: u 235 :: u 236 :: u 237 :: u 238 :: u 239 :: u 240 :: u 241 :: u 242 :: []
def F11 (b : Nat) (l : Bool) : (Nat → Value) → Act := FG 243 [(0, .pointer (some ⟨b, 0, none⟩)), (2, .bool l)]
theorem F11_lit (b : Nat) (l : Bool) (u : Nat → Value) : F11 b  l u = { tmps := List.toArray (.pointer (some ⟨b, 0, none⟩) :: u 1 :: .bool l :: u 3 :: u 4 :: u 5 :: sg243_6 u), defers := [] } := by kernel_rfl
theorem F11_at (b : Nat) (l : Bool) {L : List Value} (hl : L.length = 243) (hn : NmOk L [(0, .pointer (some ⟨b, 0, none⟩)), (2, .bool l)]) : (F11 b  l fun k => (Act.mk L.toArray []).tmps.getD k undef) = { tmps := L.toArray, defers := [] } := FG_at hl hn

def F11c (b : Nat) (l : Bool) (i : Nat) : (Nat → Value) → Act := FG 243 [(0, .pointer (some ⟨b, 0, none⟩)), (2, .bool l), (5, .int .i64 i)]
theorem F11c_lit (b : Nat) (l : Bool) (i : Nat) (u : Nat → Value) : F11c b  l  i u = { tmps := List.toArray (.pointer (some ⟨b, 0, none⟩) :: u 1 :: .bool l :: u 3 :: u 4 :: .int .i64 i :: sg243_6 u), defers := [] } := by kernel_rfl
theorem F11c_at (b : Nat) (l : Bool) (i : Nat) {L : List Value} (hl : L.length = 243) (hn : NmOk L [(0, .pointer (some ⟨b, 0, none⟩)), (2, .bool l), (5, .int .i64 i)]) : (F11c b  l  i fun k => (Act.mk L.toArray []).tmps.getD k undef) = { tmps := L.toArray, defers := [] } := FG_at hl hn

def SpRel (w : World) (b : Nat) (s : ByteArray) (p : Nat) (o d : Value) (q : Value) (la co : Bool) (n : Nat) (l : Bool) (wr : World) : Prop :=
  ∃ (p' : Nat) (op' : Bool), n = s.size - p' ∧ p ≤ p' ∧ p' ≤ s.size ∧ w.grownBy wr (some b) ∧ LX wr b s p' o d op' q la co ∧
    ((p' = p ∧ l = false) ∨ ∃ h : p < s.size, blank s[p])

set_option maxRecDepth 100000
/-- inside a comment -/
def SpIn (w : World) (b : Nat) (s : ByteArray) (p : Nat) (o d : Value) (q : Value) (la co : Bool) (n : Nat) (_ : Unit) (wr : World) : Prop :=
  ∃ (p' : Nat) (op' : Bool), n = s.size - p' ∧ p ≤ p' ∧ p' ≤ s.size ∧ w.grownBy wr (some b) ∧ LX wr b s p' o d op' q la co


/-- what the walk asks of a place one on -/
theorem idx1 {s : ByteArray} {k : Nat} (hs : s.size ≤ 100) (h : k + 1 < s.size) :
    decide ((k : Int) + 1 < s.size) = true ∧ (k : Int) + 1 < s.size ∧ (0 : Int) ≤ k + 1 ∧ ((k : Int) + 1).toNat = k + 1 ∧ IntKind.i64.wrap ((k : Int) + 1) = k + 1 :=
  ⟨by simpa using (by omega), by omega, by omega, by omega, IntWalk.i64_in _ (by omega)⟩

/-- inside a comment of the other kind -/
def SpCm (w : World) (b : Nat) (s : ByteArray) (p : Nat) (o d : Value) (q : Value) (la co : Bool) (n : Nat) (x : Bool × Nat) (wr : World) : Prop :=
  ∃ (op' : Bool), n = s.size - x.2 ∧ p + 2 ≤ x.2 ∧ x.2 ≤ s.size ∧ w.grownBy wr (some b) ∧ LX wr b s p o d op' q la co

def SpacePost (w : World) (b : Nat) (s : ByteArray) (p : Nat) (o d : Value) (q : Value) (la co : Bool) (e : Ending) (w' : World) : Prop :=
  ∃ (l k : Bool), e = .returned (.tuple #[.bool l, .bool k]) ∧ ∃ n, SpRel w b s p o d q la co n l w'
set_option maxHeartbeats 1000000 in
theorem space_any (b : Nat) (s : ByteArray) (p : Nat) (o d : Value) (op : Bool) (q : Value) (la co : Bool) (w : World) (hs : s.size ≤ 100) (hp : p ≤ s.size) (hX : LX w b s p o d op q la co) :
    Calls Tryd.prog 11 #[.pointer (some ⟨b, 0, none⟩)] w (SpacePost w b s p o d q la co) := by
  have HX := Lib.hid hX; clear hX
  go_enter Tryd.func11, Tryd.ntmps11
  go_wp2
  refine wp_loop_x (F11 b) (SpRel w b s p o d q la co) (s.size - p) false ⟨p, op, rfl, Nat.le_refl _, hp, World.grownBy.refl _ _, HX.out, .inl ⟨rfl, rfl⟩⟩ (F11_at _ _ rfl ⟨rfl, rfl, trivial⟩) ?_
  intro n l u wr hrel K hK
  have HR := Lib.hid hrel
  obtain ⟨p', op', hn, h1, h2, hg, hL, hc⟩ := hrel
  have HN := Lib.hid hn; clear hn
  have HC := Lib.hid hc; clear hc
  have HG := Lib.hid hg; clear hg
  have HK := Lib.hid hK; clear hK
  obtain ⟨c0, c1, _, _, c4, c5, _, _, _⟩ := hL.cells
  have f1 := hL.free 1
  have f4 := hL.free 4
  have HL := Lib.hid hL; clear hL
  rw [F11_lit, sg243_6]
  by_cases hlt : p' < s.size
  · have HB : ∀ (k : Nat) (l' : Bool), blank s[p'] → ((k = p ∧ l' = false) ∨ ∃ h : p < s.size, blank s[p]) := by
      intro k l' hb
      rcases HC.out with ⟨rfl, _⟩ | h
      · exact .inr ⟨hlt, hb⟩
      · exact .inr h
    have HB := Lib.hid HB
    by_cases h47 : (s[p'].toNat : Int) = 47
    · have e47 : ((s[p'].toNat : Int) == 47) = true := by simpa using h47
      have e32 : ((s[p'].toNat : Int) == 32) = false := by simp [h47]
      have e9 : ((s[p'].toNat : Int) == 9) = false := by simp [h47]
      have e10 : ((s[p'].toNat : Int) == 10) = false := by simp [h47]
      have e13 : ((s[p'].toNat : Int) == 13) = false := by simp [h47]
      have HB2 := Lib.hid (HB.out · · (.inr (.inr (.inr (.inr h47)))))
      have H47 := Lib.hid h47
      clear h47 HB
      by_cases hl2 : p' + 1 < s.size
      · obtain ⟨w4, w5, w3, w2, w1⟩ := idx1 hs hl2
        by_cases h2 : (s[p' + 1].toNat : Int) = 47
        · have d47 : ((s[p' + 1].toNat : Int) == 47) = true := by simpa using h2
          clear h2
          go_wp2
          go_quiet (fail)
          go_wp2
          go_quiet (fail)
          go_wp2
          go_quiet (fail)
          go_wp2
          refine wp_loop_x (fun _ : Unit => F11 b l) (SpIn w b s p' o d q la co) (s.size - p') () ⟨p', op', rfl, Nat.le_refl _, by omega, ⟨HG.out.os, HG.out.tape, HG.out.output, HG.out.size, HG.out.block⟩, HL.out⟩ (F11_at _ _ rfl ⟨rfl, rfl, trivial⟩) ?_
          intro n2 _ u2 wr2 hrel2 K2 hK2
          obtain ⟨p2, op2, hn2, g1, g2, hg2, hL2⟩ := hrel2
          clear c0 c1 c4 c5 f1 f4
          have HN2 := Lib.hid hn2; clear hn2
          have HG2 := Lib.hid hg2; clear hg2
          have HK2 := Lib.hid hK2; clear hK2
          obtain ⟨c0, c1, _, _, c4, c5, _, _, _⟩ := hL2.cells
          have f1 := hL2.free 1
          have f4 := hL2.free 4
          have HL2 := Lib.hid hL2; clear hL2
          rw [F11_lit, sg243_6]
          clear w1 w2 w3 w4 w5 d47 e47 e32 e9 e10 e13
          have HZ := Lib.hid hl2
          clear hl2
          by_cases hlt2 : p2 < s.size
          · have w1 : decide ((p2 : Int) < s.size) = true := by simpa using hlt2
            by_cases k10 : (s[p2].toNat : Int) = 10
            · have e10 : ((s[p2].toNat : Int) != 10) = false := by simp [k10]
              have HP : Hid (p2 ≠ p') := by intro h; subst h; have := H47.out; omega
              clear k10
              go_wp2
              go_quiet (fail)
              go_wp2
              exact HK.out (s.size - p2) l _ _ (by have := HN.out; have := HP.out; omega) ⟨p2, op2, rfl, by omega, by omega, ⟨HG2.out.os, HG2.out.tape, HG2.out.output, HG2.out.size, HG2.out.block⟩, HL2.out, HB2.out _ _⟩ (F11_at _ _ rfl ⟨rfl, rfl, trivial⟩)
            · have e10 : ((s[p2].toNat : Int) != 10) = true := by simpa using k10
              clear k10
              by_cases k13 : (s[p2].toNat : Int) = 13
              · have e13 : ((s[p2].toNat : Int) != 13) = false := by simp [k13]
                have HP : Hid (p2 ≠ p') := by intro h; subst h; have := H47.out; omega
                clear k13
                go_wp2
                go_quiet (fail)
                go_wp2
                exact HK.out (s.size - p2) l _ _ (by have := HN.out; have := HP.out; omega) ⟨p2, op2, rfl, by omega, by omega, ⟨HG2.out.os, HG2.out.tape, HG2.out.output, HG2.out.size, HG2.out.block⟩, HL2.out, HB2.out _ _⟩ (F11_at _ _ rfl ⟨rfl, rfl, trivial⟩)
              · have e13 : ((s[p2].toNat : Int) != 13) = true := by simpa using k13
                clear k13
                by_cases k128 : 128 ≤ (s[p2].toNat : Int)
                all_goals
                  go_wp2
                  go_quiet (fail)
                  go_wp2
                  go_quiet ((go_at_call 16; exact (marked_any _ _ _ (by assumption)).mono fun _ _ h => ⟨h.1, _, h.2⟩))
                  go_wp2
                · exact HK2.out (s.size - (p2 + 1)) () _ _ (by have := HN2.out; omega) ⟨p2 + 1, true, rfl, by omega, by omega, (by refine gb_set (gb_set ?_ _ _) _ _; exact ⟨HG2.out.os, HG2.out.tape, HG2.out.output, HG2.out.size, HG2.out.block⟩), LX.set1 (p := p2) (LX.set4 (op := op2) (by exact HL2.out) _) _⟩ (F11_at _ _ rfl ⟨rfl, rfl, trivial⟩)
                · exact HK2.out (s.size - (p2 + 1)) () _ _ (by have := HN2.out; omega) ⟨p2 + 1, op2, rfl, by omega, by omega, (by refine gb_set ?_ _ _; exact ⟨HG2.out.os, HG2.out.tape, HG2.out.output, HG2.out.size, HG2.out.block⟩), LX.set1 (p := p2) (by exact HL2.out) _⟩ (F11_at _ _ rfl ⟨rfl, rfl, trivial⟩)
          · have w1 : decide ((p2 : Int) < s.size) = false := by simpa using hlt2
            have HP : Hid (p2 ≠ p') := by intro h; subst h; have := HZ.out; omega
            go_wp2
            go_quiet (fail)
            go_wp2
            exact HK.out (s.size - p2) l _ _ (by have := HN.out; have := HP.out; omega) ⟨p2, op2, rfl, by omega, by omega, ⟨HG2.out.os, HG2.out.tape, HG2.out.output, HG2.out.size, HG2.out.block⟩, HL2.out, HB2.out _ _⟩ (F11_at _ _ rfl ⟨rfl, rfl, trivial⟩)
        · have d47 : ((s[p' + 1].toNat : Int) == 47) = false := by simpa using h2
          clear h2
          by_cases h2 : (s[p' + 1].toNat : Int) = 42
          · have d42 : ((s[p' + 1].toNat : Int) == 42) = true := by simpa using h2
            clear h2
            have w6 : IntKind.i64.wrap ((p' : Int) + 2) = p' + 2 := IntWalk.i64_in _ (by omega)
            go_wp2
            go_quiet (fail)
            go_wp2
            go_quiet (fail)
            go_wp2
            go_quiet (fail)
            go_wp2
            go_quiet (fail)
            go_wp2
            refine wp_loop_x (fun x : Bool × Nat => F11c b x.1 x.2) (SpCm w b s p' o d q la co) (s.size - (p' + 2)) (l, p' + 2) ⟨op', rfl, by omega, by omega, ⟨HG.out.os, HG.out.tape, HG.out.output, HG.out.size, HG.out.block⟩, HL.out⟩ (F11c_at _ _ _ rfl ⟨rfl, rfl, rfl, trivial⟩) ?_
            intro n2 x u2 wr2 hrel2 K2 hK2
            obtain ⟨l2, i⟩ := x
            obtain ⟨op2, hn2, g1, g2, hg2, hL2⟩ := hrel2
            simp only at g1 g2 hn2
            clear c0 c1 c4 c5 f1 f4
            have HN2 := Lib.hid hn2; clear hn2
            have HG2 := Lib.hid hg2; clear hg2
            have HK2 := Lib.hid hK2; clear hK2
            obtain ⟨c0, c1, _, _, c4, c5, _, _, _⟩ := hL2.cells
            have f1 := hL2.free 1
            have f4 := hL2.free 4
            have HL2 := Lib.hid hL2; clear hL2
            rw [F11c_lit, sg243_6]
            clear w1 w2 w3 w4 w5 w6 d47 d42 e47 e32 e9 e10 e13
            by_cases hlt2 : i + 1 < s.size
            · go_wp2_with (go_at_call 16; refine (marked_any _ _ _ (by assumption)).mono ?_; rintro e w' ⟨rfl, rfl⟩)
              all_goals first
                | exact HK2.out (s.size - (i + 1)) (l2, i + 1) _ _ (by have := HN2.out; omega) ⟨op2, rfl, by simp only; omega, by simp only; omega, ⟨HG2.out.os, HG2.out.tape, HG2.out.output, HG2.out.size, HG2.out.block⟩, HL2.out⟩ (F11c_at _ _ _ rfl ⟨rfl, rfl, rfl, trivial⟩)
                | exact HK2.out (s.size - (i + 1)) (l2, i + 1) _ _ (by have := HN2.out; omega) ⟨true, rfl, by simp only; omega, by simp only; omega, gb_set (by exact ⟨HG2.out.os, HG2.out.tape, HG2.out.output, HG2.out.size, HG2.out.block⟩) _ _, LX.set4 (op := op2) (by exact HL2.out) _⟩ (F11c_at _ _ _ rfl ⟨rfl, rfl, rfl, trivial⟩)
                | exact HK2.out (s.size - (i + 1)) (true, i + 1) _ _ (by have := HN2.out; omega) ⟨op2, rfl, by simp only; omega, by simp only; omega, ⟨HG2.out.os, HG2.out.tape, HG2.out.output, HG2.out.size, HG2.out.block⟩, HL2.out⟩ (F11c_at _ _ _ rfl ⟨rfl, rfl, rfl, trivial⟩)
                | exact HK2.out (s.size - (i + 1)) (true, i + 1) _ _ (by have := HN2.out; omega) ⟨true, rfl, by simp only; omega, by simp only; omega, gb_set (by exact ⟨HG2.out.os, HG2.out.tape, HG2.out.output, HG2.out.size, HG2.out.block⟩) _ _, LX.set4 (op := op2) (by exact HL2.out) _⟩ (F11c_at _ _ _ rfl ⟨rfl, rfl, rfl, trivial⟩)
                | exact HK.out (s.size - (i + 2)) l2 _ _ (by have := HN.out; omega) ⟨i + 2, op2, rfl, by omega, by omega, gb_set (by exact ⟨HG2.out.os, HG2.out.tape, HG2.out.output, HG2.out.size, HG2.out.block⟩) _ _, LX.set1 (p := p') (by exact HL2.out) _, HB2.out _ _⟩ (F11_at _ _ rfl ⟨rfl, rfl, trivial⟩)
            · go_wp2_with fail
              go_ret2
              exact ⟨l2, false, rfl, _, p', op2, rfl, by omega, by omega, ⟨HG2.out.os, HG2.out.tape, HG2.out.output, HG2.out.size, HG2.out.block⟩, HL2.out, HB2.out _ _⟩
          · have d42 : ((s[p' + 1].toNat : Int) == 42) = false := by simpa using h2
            clear h2
            go_wp2
            go_quiet (fail)
            go_wp2
            go_quiet (fail)
            go_wp2
            go_quiet (fail)
            go_wp2
            go_quiet (fail)
            go_wp2
            go_ret2
            exact ⟨l, true, rfl, _, p', op', rfl, by omega, by omega, ⟨HG.out.os, HG.out.tape, HG.out.output, HG.out.size, HG.out.block⟩, HL.out, HC.out⟩
      · have w4 : decide ((p' : Int) + 1 < s.size) = false := by simpa using (by omega)
        go_wp2
        go_quiet (fail)
        go_wp2
        go_quiet (fail)
        go_wp2
        go_quiet (fail)
        go_wp2
        go_quiet (fail)
        go_wp2
        go_ret2
        exact ⟨l, true, rfl, _, p', op', rfl, by omega, by omega, ⟨HG.out.os, HG.out.tape, HG.out.output, HG.out.size, HG.out.block⟩, HL.out, HC.out⟩
    · have e47 : ((s[p'].toNat : Int) == 47) = false := by simpa using h47
      clear h47
      go_wp2
      go_quiet (fail)
      go_wp2
      go_quiet (fail)
      go_wp2
      · exact HK.out (s.size - (p' + 1)) l _ _ (by have := HN.out; omega) ⟨p' + 1, op', rfl, by omega, by omega, (by refine gb_set ?_ _ _; exact ⟨HG.out.os, HG.out.tape, HG.out.output, HG.out.size, HG.out.block⟩), LX.set1 (p := p') (by exact HL.out) _, HB.out _ _ (by unfold blank; omega)⟩ (F11_at _ _ rfl ⟨rfl, rfl, trivial⟩)
      · have hz : ((s[p'].toNat : Int) == 32) = true ∨ ((s[p'].toNat : Int) == 9) = true := by assumption
        simp only [beq_iff_eq] at hz
        exact HK.out (s.size - (p' + 1)) l _ _ (by have := HN.out; omega) ⟨p' + 1, op', rfl, by omega, by omega, (by refine gb_set ?_ _ _; exact ⟨HG.out.os, HG.out.tape, HG.out.output, HG.out.size, HG.out.block⟩), LX.set1 (p := p') (by exact HL.out) _, HB.out _ _ (by unfold blank; omega)⟩ (F11_at _ _ rfl ⟨rfl, rfl, trivial⟩)
      · exact HK.out (s.size - (p' + 1)) true _ _ (by have := HN.out; omega) ⟨p' + 1, op', rfl, by omega, by omega, (by refine gb_set ?_ _ _; exact ⟨HG.out.os, HG.out.tape, HG.out.output, HG.out.size, HG.out.block⟩), LX.set1 (p := p') (by exact HL.out) _, HB.out _ _ (by unfold blank; omega)⟩ (F11_at _ _ rfl ⟨rfl, rfl, trivial⟩)
      · have hz : ((s[p'].toNat : Int) == 10) = true ∨ ((s[p'].toNat : Int) == 13) = true := by assumption
        simp only [beq_iff_eq] at hz
        exact HK.out (s.size - (p' + 1)) true _ _ (by have := HN.out; omega) ⟨p' + 1, op', rfl, by omega, by omega, (by refine gb_set ?_ _ _; exact ⟨HG.out.os, HG.out.tape, HG.out.output, HG.out.size, HG.out.block⟩), LX.set1 (p := p') (by exact HL.out) _, HB.out _ _ (by unfold blank; omega)⟩ (F11_at _ _ rfl ⟨rfl, rfl, trivial⟩)
      · go_quiet (fail)
        go_wp2
        go_quiet (fail)
        go_wp2
        go_ret2
        exact ⟨l, true, rfl, _, p', op', rfl, by omega, by omega, ⟨HG.out.os, HG.out.tape, HG.out.output, HG.out.size, HG.out.block⟩, HL.out, HC.out⟩
  · go_wp2
    go_quiet (fail)
    go_wp2
    go_ret2
    exact ⟨l, true, rfl, _, p', op', rfl, by omega, by omega, ⟨HG.out.os, HG.out.tape, HG.out.output, HG.out.size, HG.out.block⟩, HL.out, HC.out⟩
set_option maxRecDepth 100000

set_option maxHeartbeats 1000000 in
theorem space_none (b : Nat) (s : ByteArray) (p : Nat) (o d : Value) (op : Bool) (q : Value) (la co : Bool) (w : World) (hX : LX w b s p o d op q la co) (hb : ∀ h : p < s.size, ¬ blank s[p]) :
    Calls Tryd.prog 11 #[.pointer (some ⟨b, 0, none⟩)] w fun e w' => e = .returned (.tuple #[.bool false, .bool true]) ∧ w.grownBy w' none := by
  have HX := Lib.hid hX; clear hX
  have HB := Lib.hid hb; clear hb
  go_enter Tryd.func11, Tryd.ntmps11
  go_wp2
  refine wp_loop_x (F11 b) (fun _ l w' => l = false ∧ w' = w) 0 false ⟨rfl, rfl⟩ (F11_at _ _ rfl ⟨rfl, rfl, trivial⟩) ?_
  rintro n l u wr ⟨rfl, rfl⟩ K hK
  clear hK
  obtain ⟨c0, c1, _, _, c4, c5, _, _, _⟩ := HX.out.cells
  rw [F11_lit, sg243_6]
  by_cases hlt : p < s.size
  · have hb := HB.out hlt
    unfold blank at hb
    have e32 : ((s[p].toNat : Int) == 32) = false := by simpa using (by omega)
    have e9 : ((s[p].toNat : Int) == 9) = false := by simpa using (by omega)
    have e10 : ((s[p].toNat : Int) == 10) = false := by simpa using (by omega)
    have e13 : ((s[p].toNat : Int) == 13) = false := by simpa using (by omega)
    have e47 : ((s[p].toNat : Int) == 47) = false := by simpa using (by omega)
    clear hb HB
    go_wp2
    go_quiet (fail)
    go_wp2
    go_quiet (fail)
    go_wp2
    go_quiet (fail)
    go_wp2
    go_quiet (fail)
    go_wp2
    go_ret2
    exact ⟨rfl, by repeat' (first | exact World.grownBy.refl _ _ | apply gb_drewN)⟩
  · go_wp2
    go_quiet (fail)
    go_wp2
    go_ret2
    exact ⟨rfl, by repeat' (first | exact World.grownBy.refl _ _ | apply gb_drewN)⟩
end Go.Proofs.YtblphppdfiipfaaDoor
