/- The lexer takes a sign. Conditions: none. -/
import Derived.Test.YtblphppdfiipfaaDoorCWord
namespace Go.Proofs.YtblphppdfiipfaaDoor
open Go.RowKit
set_option maxRecDepth 100000

def sg230_9 (u : Nat → Value) (r : List Value) : List Value := u 9 :: u 10 :: u 11 :: u 12 :: u 13 :: u 14 :: u 15 :: u 16 :: u 17 :: u 18 :: u 19 :: u 20 :: u 21 :: u 22 :: u 23 :: u 24 :: u 25 :: u 26 :: u 27 :: u 28 :: u 29 :: u 30 :: u 31 :: u 32 :: u 33 :: u 34 :: u 35 :: u 36 :: u 37 :: u 38 :: u 39 :: u 40 :: u 41 :: u 42 :: r
def sg230_44 (u : Nat → Value) (r : List Value) : List Value := u 44 :: u 45 :: u 46 :: u 47 :: u 48 :: u 49 :: u 50 :: u 51 :: u 52 :: u 53 :: u 54 :: u 55 :: u 56 :: u 57 :: u 58 :: u 59 :: u 60 :: u 61 :: u 62 :: u 63 :: u 64 :: u 65 :: u 66 :: u 67 :: u 68 :: u 69 :: u 70 :: r
def sg230_72 (u : Nat → Value) (r : List Value) : List Value := u 72 :: u 73 :: u 74 :: u 75 :: u 76 :: u 77 :: u 78 :: u 79 :: u 80 :: u 81 :: u 82 :: u 83 :: u 84 :: u 85 :: u 86 :: u 87 :: u 88 :: r
def sg230_90 (u : Nat → Value) (r : List Value) : List Value := u 90 :: u 91 :: u 92 :: u 93 :: u 94 :: u 95 :: u 96 :: u 97 :: u 98 :: u 99 :: u 100 :: u 101 :: u 102 :: u 103 :: u 104 :: u 105 :: u 106 :: u 107 :: u 108 :: u 109 :: u 110 :: u 111 :: u 112 :: u 113 :: u 114 :: u 115 :: u 116 :: u 117 :: u 118 :: u 119 :: u 120 :: u 121 :: u 122 :: u 123 :: u 124 :: u 125 :: u 126 :: u 127 :: u 128 :: u 129 :: u 130 :: u 131 :: u 132 :: u 133 :: u 134 :: u 135 :: u 136 :: u 137 :: u 138 :: u 139 :: u 140 :: u 141 :: u 142 :: u 143 :: u 144 :: u 145 :: u 146 :: u 147 :: u 148 :: u 149 :: u 150 :: u 151 :: u 152 :: u 153 :: u 154 :: u 155 :: u 156 :: u 157 :: u 158 :: u 159 :: u 160 :: u 161 :: u 162 :: u 163 :: u 164 :: u 165 :: r
def sg230_167 (u : Nat → Value) : List Value := u 167 :: u 168 :: u 169 :: u 170 :: u 171 :: u 172 :: u 173 :: u 174 :: u 175 :: u 176 :: u 177 :: u 178 :: u 179 :: u 180 :: u 181 :: u 182 :: u 183 :: u 184 :: u 185 :: u 186 :: u 187 :: u 188 :: u 189 :: u 190 :: u 191 :: u 192 :: u 193 :: u 194 :: u 195 :: u 196 :: u 197 :: u 198 :: u 199 :: u 200 :: u 201 :: u 202 :: u 203 :: u 204 :: u 205 :: u 206 :: u 207 :: u 208 :: u 209 :: u 210 :: u 211 :: u 212 :: u 213 :: u 214 :: u 215 :: u 216 :: u 217 :: u 218 :: u 219 :: u 220 :: u 221 :: u 222 :: u 223 :: u 224 :: u 225 :: u 226 :: u 227 :: u 228 :: u 229 :: []
def F22 (b : Nat) (z : Bool) (cs : Array Value) (k : Nat) : (Nat → Value) → Act := FG 230 [(0, .pointer (some ⟨b, 0, none⟩)), (1, .bool z), (7, .agg cs), (8, .int .i64 k)]
theorem F22_lit (b : Nat) (z : Bool) (cs : Array Value) (k : Nat) (u : Nat → Value) : F22 b  z  cs  k u = { tmps := List.toArray (.pointer (some ⟨b, 0, none⟩) :: .bool z :: u 2 :: u 3 :: u 4 :: u 5 :: u 6 :: .agg cs :: .int .i64 k :: sg230_9 u (u 43 :: sg230_44 u (u 71 :: sg230_72 u (u 89 :: sg230_90 u (u 166 :: sg230_167 u))))), defers := [] } := by kernel_rfl
theorem F22_at (b : Nat) (z : Bool) (cs : Array Value) (k : Nat) {L : List Value} (hl : L.length = 230) (hn : NmOk L [(0, .pointer (some ⟨b, 0, none⟩)), (1, .bool z), (7, .agg cs), (8, .int .i64 k)]) : (F22 b  z  cs  k fun k => (Act.mk L.toArray []).tmps.getD k undef) = { tmps := L.toArray, defers := [] } := FG_at hl hn
def F22a (b : Nat) (z : Bool) (cs : Array Value) (k : Nat) (ps : ByteArray) (y : Bool) : (Nat → Value) → Act := FG 230 [(0, .pointer (some ⟨b, 0, none⟩)), (1, .bool z), (5, .string ps), (7, .agg cs), (8, .int .i64 k), (43, .bool y)]
theorem F22a_lit (b : Nat) (z : Bool) (cs : Array Value) (k : Nat) (ps : ByteArray) (y : Bool) (u : Nat → Value) : F22a b  z  cs  k  ps  y u = { tmps := List.toArray (.pointer (some ⟨b, 0, none⟩) :: .bool z :: u 2 :: u 3 :: u 4 :: .string ps :: u 6 :: .agg cs :: .int .i64 k :: sg230_9 u (.bool y :: sg230_44 u (u 71 :: sg230_72 u (u 89 :: sg230_90 u (u 166 :: sg230_167 u))))), defers := [] } := by kernel_rfl
theorem F22a_at (b : Nat) (z : Bool) (cs : Array Value) (k : Nat) (ps : ByteArray) (y : Bool) {L : List Value} (hl : L.length = 230) (hn : NmOk L [(0, .pointer (some ⟨b, 0, none⟩)), (1, .bool z), (5, .string ps), (7, .agg cs), (8, .int .i64 k), (43, .bool y)]) : (F22a b  z  cs  k  ps  y fun k => (Act.mk L.toArray []).tmps.getD k undef) = { tmps := L.toArray, defers := [] } := FG_at hl hn
def F22b (b : Nat) (z : Bool) (cs : Array Value) (k : Nat) (ps : ByteArray) (y : Bool) : (Nat → Value) → Act := FG 230 [(0, .pointer (some ⟨b, 0, none⟩)), (1, .bool z), (5, .string ps), (7, .agg cs), (8, .int .i64 k), (71, .bool y)]
theorem F22b_lit (b : Nat) (z : Bool) (cs : Array Value) (k : Nat) (ps : ByteArray) (y : Bool) (u : Nat → Value) : F22b b  z  cs  k  ps  y u = { tmps := List.toArray (.pointer (some ⟨b, 0, none⟩) :: .bool z :: u 2 :: u 3 :: u 4 :: .string ps :: u 6 :: .agg cs :: .int .i64 k :: sg230_9 u (u 43 :: sg230_44 u (.bool y :: sg230_72 u (u 89 :: sg230_90 u (u 166 :: sg230_167 u))))), defers := [] } := by kernel_rfl
theorem F22b_at (b : Nat) (z : Bool) (cs : Array Value) (k : Nat) (ps : ByteArray) (y : Bool) {L : List Value} (hl : L.length = 230) (hn : NmOk L [(0, .pointer (some ⟨b, 0, none⟩)), (1, .bool z), (5, .string ps), (7, .agg cs), (8, .int .i64 k), (71, .bool y)]) : (F22b b  z  cs  k  ps  y fun k => (Act.mk L.toArray []).tmps.getD k undef) = { tmps := L.toArray, defers := [] } := FG_at hl hn
def F22d (b : Nat) (z : Bool) (cs : Array Value) (k : Nat) (ps : ByteArray) (y : Bool) : (Nat → Value) → Act := FG 230 [(0, .pointer (some ⟨b, 0, none⟩)), (1, .bool z), (5, .string ps), (7, .agg cs), (8, .int .i64 k), (89, .bool y)]
theorem F22d_lit (b : Nat) (z : Bool) (cs : Array Value) (k : Nat) (ps : ByteArray) (y : Bool) (u : Nat → Value) : F22d b  z  cs  k  ps  y u = { tmps := List.toArray (.pointer (some ⟨b, 0, none⟩) :: .bool z :: u 2 :: u 3 :: u 4 :: .string ps :: u 6 :: .agg cs :: .int .i64 k :: sg230_9 u (u 43 :: sg230_44 u (u 71 :: sg230_72 u (.bool y :: sg230_90 u (u 166 :: sg230_167 u))))), defers := [] } := by kernel_rfl
theorem F22d_at (b : Nat) (z : Bool) (cs : Array Value) (k : Nat) (ps : ByteArray) (y : Bool) {L : List Value} (hl : L.length = 230) (hn : NmOk L [(0, .pointer (some ⟨b, 0, none⟩)), (1, .bool z), (5, .string ps), (7, .agg cs), (8, .int .i64 k), (89, .bool y)]) : (F22d b  z  cs  k  ps  y fun k => (Act.mk L.toArray []).tmps.getD k undef) = { tmps := L.toArray, defers := [] } := FG_at hl hn
def F22c (b : Nat) (z : Bool) (cs : Array Value) (k : Nat) (ps : ByteArray) (y : Bool) : (Nat → Value) → Act := FG 230 [(0, .pointer (some ⟨b, 0, none⟩)), (1, .bool z), (5, .string ps), (7, .agg cs), (8, .int .i64 k), (166, .bool y)]
theorem F22c_lit (b : Nat) (z : Bool) (cs : Array Value) (k : Nat) (ps : ByteArray) (y : Bool) (u : Nat → Value) : F22c b  z  cs  k  ps  y u = { tmps := List.toArray (.pointer (some ⟨b, 0, none⟩) :: .bool z :: u 2 :: u 3 :: u 4 :: .string ps :: u 6 :: .agg cs :: .int .i64 k :: sg230_9 u (u 43 :: sg230_44 u (u 71 :: sg230_72 u (u 89 :: sg230_90 u (.bool y :: sg230_167 u))))), defers := [] } := by kernel_rfl
theorem F22c_at (b : Nat) (z : Bool) (cs : Array Value) (k : Nat) (ps : ByteArray) (y : Bool) {L : List Value} (hl : L.length = 230) (hn : NmOk L [(0, .pointer (some ⟨b, 0, none⟩)), (1, .bool z), (5, .string ps), (7, .agg cs), (8, .int .i64 k), (166, .bool y)]) : (F22c b  z  cs  k  ps  y fun k => (Act.mk L.toArray []).tmps.getD k undef) = { tmps := L.toArray, defers := [] } := FG_at hl hn
def PnRel (w : World) (n : Nat) (k : Nat) (wr : World) : Prop := n = 57 - k ∧ k ≤ 57 ∧ ∃ m, wr = w.drewN m
def PnRa (w : World) (s ps : ByteArray) (p : Nat) (y : Bool) (wr : World) : Prop := (∃ m, wr = w.drewN m) ∧ (y = false → p + ps.size ≤ s.size)
def PnRb (w : World) (_ : Bool) (wr : World) : Prop := ∃ m, wr = w.drewN m

set_option maxHeartbeats 8000000 in
theorem punct_any (B b : Nat) (s : ByteArray) (p : Nat) (op : Bool) (z : Bool) (Ts : List Tok) (D : List Int) (O : List (Bool × Int)) (w : World) (hs : s.size ≤ 100) (hp : p < s.size)
    (hTs : Ts.length ≤ 200) (hDs : D.length ≤ 200) (hOs : O.length ≤ 400) (h : LS B b s w p op Ts D O) (hE : PunE w) :
    Calls Tryd.prog 22 #[.pointer (some ⟨b, 0, none⟩), .bool z] w (TokPost B b s w p Ts D O) := by
  obtain ⟨o, d, q, la, co, h⟩ := h
  obtain ⟨cs, ty, frz, hcs, hsz, hall⟩ := hE
  obtain ⟨c0, c1, c2, c3, c4, c5, c6, _, _⟩ := h.x.cells
  have f1 := h.x.free 1
  have f2 := h.x.free 2
  have f4 := h.x.free 4
  have HH := Lib.hid h; clear h
  have HA := Lib.hid hall; clear hall
  go_enter Tryd.func22, Tryd.ntmps22
  have hu69 := und69
  go_wp2_with (refine wpList_load_row rfl 69 _ rfl 2 rfl ty cs frz (.array 57 9) hcs und69 rfl (by rw [info69, hsz]) ?_)
  refine wp_loop_x (fun k : Nat => F22 b z cs k) (PnRel w) 57 0 ⟨rfl, by omega, 0, rfl⟩ (F22_at _ _ _ _ rfl ⟨rfl, rfl, rfl, by show _ = Value.int .i64 ((0 : Nat) : Int); rfl, trivial⟩) ?_
  rintro n k u wr ⟨hn, hk, m, rfl⟩ K hK
  have HN := Lib.hid hn; clear hn
  have HK := Lib.hid hK; clear hK
  rw [F22_lit, sg230_9, sg230_44, sg230_72, sg230_90, sg230_167]
  by_cases hk2 : k < 57
  · have g1 : decide ((k : Int) < 57) = true := decide_eq_true (by omega)
    have g2 : (k : Int) < 57 := by omega
    obtain ⟨ps, hps, hps1, hps4⟩ := HA.out k hk2
    have hix := idx69 hk2 hps
    have HPS := Lib.hid hps
    clear hps
    have hb1 : IntKind.i64.wrap ((s.size : Int) - p) = s.size - p := IntWalk.i64_in _ (by omega)
    go_wp2_with fail
    refine wp_cut_x (fun y : Bool => F22a b z cs k ps y) (PnRa w s ps p) ?_ ?_
    · intro K3 hK3
      have HK3 := Lib.hid hK3; clear hK3
      by_cases hfit : p + ps.size ≤ s.size
      · have e1 : decide ((ps.size : Int) > (s.size : Int) - p) = false := decide_eq_false (by omega)
        have e2 : IntKind.i64.wrap ((p : Int) + ps.size) = p + ps.size := IntWalk.i64_in _ (by omega)
        go_quiet (fail)
        exact HK3.out _ _ _ ⟨⟨_, dd _ _ _⟩, fun _ => hfit⟩ (F22a_at _ _ _ _ _ _ rfl ⟨rfl, rfl, rfl, rfl, rfl, rfl, trivial⟩)
      · have e1 : decide ((ps.size : Int) > (s.size : Int) - p) = true := decide_eq_true (by omega)
        go_quiet (fail)
        exact HK3.out true _ _ ⟨⟨_, dd _ _ _⟩, fun h => absurd h (by simp)⟩ (F22a_at _ _ _ _ _ _ rfl ⟨rfl, rfl, rfl, rfl, rfl, rfl, trivial⟩)
    rintro y u3 _ ⟨⟨m3, rfl⟩, hy⟩
    rw [F22a_lit, sg230_9, sg230_44, sg230_72, sg230_90, sg230_167]
    unfold Exit.then
    have hinc : IntKind.i64.wrap ((k : Int) + 1) = (k + 1 : Nat) := IntWalk.i64_in _ (by omega)
    cases y
    · have hfit := hy rfl
      clear hy hb1 hix
      have HFIT := Lib.hid hfit
      go_wp2_with fail
      refine wp_cut_x (fun y : Bool => F22b b z cs k ps y) (PnRb w) ?_ ?_
      · intro K3 hK3
        have HK3 := Lib.hid hK3; clear hK3
        obtain ⟨x1, hx1⟩ : ∃ x, (ps.toList == [63, 46]) = x := ⟨_, rfl⟩
        cases x1
        · go_quiet (fail)
          exact HK3.out false _ _ ⟨_, dd _ _ _⟩ (F22b_at _ _ _ _ _ _ rfl ⟨rfl, rfl, rfl, rfl, rfl, rfl, trivial⟩)
        · by_cases h2 : p + 2 < s.size
          · obtain ⟨v1, v2, v3, v4, v5⟩ := idx2 hs h2
            go_quiet ((go_at_call 8; exact (isDigit_any _ _).mono fun _ _ h => ⟨h.1, _, h.2⟩))
            exact HK3.out _ _ _ ⟨_, dd _ _ _⟩ (F22b_at _ _ _ _ _ _ rfl ⟨rfl, rfl, rfl, rfl, rfl, rfl, trivial⟩)
          · have v1 : decide ((p : Int) + 2 < s.size) = false := decide_eq_false (by omega)
            have v5 : IntKind.i64.wrap ((p : Int) + 2) = p + 2 := IntWalk.i64_in _ (by omega)
            go_quiet (fail)
            exact HK3.out false _ _ ⟨_, dd _ _ _⟩ (F22b_at _ _ _ _ _ _ rfl ⟨rfl, rfl, rfl, rfl, rfl, rfl, trivial⟩)
      rintro y u4 _ ⟨m4, rfl⟩
      rw [F22b_lit, sg230_9, sg230_44, sg230_72, sg230_90, sg230_167]
      cases y
      · go_step
        go_step
        go_step
        go_step
        go_step
        go_step
        go_step
        go_step
        refine wp_cut_x (fun _ : Bool => F22d b z cs k ps false) (PnRb w) ?_ ?_
        · intro K3 hK3
          have HK3 := Lib.hid hK3; clear hK3
          go_wp2_with fail
          all_goals exact HK3.out true _ _ ⟨_, rfl⟩ (F22d_at _ _ _ _ _ _ rfl ⟨rfl, rfl, rfl, rfl, rfl, rfl, trivial⟩)
        rintro _ u5 _ ⟨m5, rfl⟩
        rw [F22d_lit, sg230_9, sg230_44, sg230_72, sg230_90, sg230_167]
        unfold Exit.then
        go_wp2_with fail
        obtain ⟨og, ocap, rfl⟩ := slice_form HH.out.ro
        refine wp_cut_x (fun y : Bool => F22c b z cs k ps y) (PnRb w) ?_ ?_
        · intro K3 hK3
          have HK3 := Lib.hid hK3; clear hK3
          have FIN : Hid (∀ (y : Bool) (L : List Value) (hl : L.length = 230) (hn : NmOk L [(0, .pointer (some ⟨b, 0, none⟩)), (1, .bool z), (5, .string ps), (7, .agg cs), (8, .int .i64 k), (166, .bool y)]) (m : Nat), K3 (Act.mk L.toArray []) ((w.drewN m5).drewN m)) := Lib.hid fun y L hl hn m => HK3.out y _ _ ⟨_, dd _ _ _⟩ (F22c_at _ _ _ _ _ _ hl hn)
          clear HK3
          obtain ⟨x1, hx1⟩ : ∃ x, (ps.toList == [45, 45]) = x := ⟨_, rfl⟩
          cases x1
          · obtain ⟨x2, hx2⟩ : ∃ x, (ps.toList == [60]) = x := ⟨_, rfl⟩
            cases x2
            · skip
              simp only [List.append_eq, List.cons_append, List.nil_append]
              go_quiet (fail)
              exact FIN.out false _ rfl ⟨rfl, rfl, rfl, rfl, rfl, rfl, trivial⟩ _
            · have v5 : IntKind.i64.wrap ((p : Int) + 3) = p + 3 := IntWalk.i64_in _ (by omega)
              by_cases h3 : p + 3 < s.size
              · have v1 : decide ((p : Int) + 3 < s.size) = true := decide_eq_true (by omega)
                have v6 : IntKind.i64.wrap ((p : Int) + 1) = p + 1 := IntWalk.i64_in _ (by omega)
                have v7 : IntKind.i64.wrap ((p : Int) + 4) = p + 4 := IntWalk.i64_in _ (by omega)
                simp only [List.append_eq, List.cons_append, List.nil_append]
                go_quiet (fail)
                exact FIN.out _ _ rfl ⟨rfl, rfl, rfl, rfl, rfl, rfl, trivial⟩ _
              · have v1 : decide ((p : Int) + 3 < s.size) = false := decide_eq_false (by omega)
                simp only [List.append_eq, List.cons_append, List.nil_append]
                go_quiet (fail)
                exact FIN.out false _ rfl ⟨rfl, rfl, rfl, rfl, rfl, rfl, trivial⟩ _
          · have hx2 : (ps.toList == [60]) = false := by
              have : ps.toList = [45, 45] := by simpa using hx1
              rw [this]; rfl
            by_cases h2 : p + 2 < s.size
            · obtain ⟨v1, v2, v3, v4, v5⟩ := idx2 hs h2
              by_cases h62 : (s[p + 2].toNat : Int) = 62
              · have e62 : ((s[p + 2].toNat : Int) == 62) = true := by simpa using h62
                clear h62
                cases z
                · obtain ⟨x3, hx3⟩ : ∃ x, ((Ts.length : Int) == 0) = x := ⟨_, rfl⟩
                  cases x3
                  · skip
                    simp only [List.append_eq, List.cons_append, List.nil_append]
                    go_quiet (fail)
                    exact FIN.out false _ rfl ⟨rfl, rfl, rfl, rfl, rfl, rfl, trivial⟩ _
                  · skip
                    simp only [List.append_eq, List.cons_append, List.nil_append]
                    go_quiet (fail)
                    exact FIN.out true _ rfl ⟨rfl, rfl, rfl, rfl, rfl, rfl, trivial⟩ _
                · skip
                  simp only [List.append_eq, List.cons_append, List.nil_append]
                  go_quiet (fail)
                  exact FIN.out true _ rfl ⟨rfl, rfl, rfl, rfl, rfl, rfl, trivial⟩ _
              · have e62 : ((s[p + 2].toNat : Int) == 62) = false := by simpa using h62
                clear h62
                simp only [List.append_eq, List.cons_append, List.nil_append]
                go_quiet (fail)
                exact FIN.out false _ rfl ⟨rfl, rfl, rfl, rfl, rfl, rfl, trivial⟩ _
            · have v1 : decide ((p : Int) + 2 < s.size) = false := decide_eq_false (by omega)
              have v5 : IntKind.i64.wrap ((p : Int) + 2) = p + 2 := IntWalk.i64_in _ (by omega)
              simp only [List.append_eq, List.cons_append, List.nil_append]
              go_quiet (fail)
              exact FIN.out false _ rfl ⟨rfl, rfl, rfl, rfl, rfl, rfl, trivial⟩ _
        rintro y u6 _ ⟨m6, rfl⟩
        rw [F22c_lit, sg230_9, sg230_44, sg230_72, sg230_90, sg230_167]
        unfold Exit.then
        cases y
        · rcases List.eq_nil_or_concat D with rfl | ⟨Ds, y, rfl⟩
          · obtain ⟨dgg, dcap, rfl⟩ := slice_form HH.out.rd
            go_wp2_with fail
            refine (bracket_any B b s ps p op Ts [] O _ hTs hOs ⟨_, _, _, _, _, HH.out.kept (gb_drewN (World.grownBy.refl _ _) m6)⟩).mono ?_
            rintro e w2 ⟨rfl, ⟨O', hO', o2, d2, q2, la2, co2, hL2⟩, hB2⟩
            have HB2 : Hid (Below B w w2) := Lib.hid ((bel_drewN B w m6).trans hB2)
            have HL2 := Lib.hid hL2
            clear c0 c1 c3 c4 c5 c6 f1 f2 f4 hB2 hL2
            have c1 := HL2.out.x.cells.2.1
            have f1 := HL2.out.x.free 1
            have e9 : IntKind.i64.wrap ((p : Int) + ps.size) = p + ps.size := IntWalk.i64_in _ (by omega)
            have hV : LV B b s (w2.setCell ⟨b, 1, none⟩ (.int .i64 ((p : Int) + ps.size))) (p + ps.size) op Ts [] O' o2 d2 q2 la2 co2 := HL2.out.next (gb_set (World.grownBy.refl _ _) 1 _) (LX.set1 HL2.out.x _)
            have c2 := HL2.out.x.cells.2.2.1
            have f2 := HL2.out.x.free 2
            have hsz2 : (w2.setCell ⟨b, 1, none⟩ (.int .i64 ((p : Int) + ps.size))).heap.size = w2.heap.size := by simp
            obtain ⟨j0, hj, hy0, hy1, hy2⟩ := info_parts info31
            have HJ := Lib.hid hj
            obtain ⟨tok, htok⟩ : ∃ tok : Tok, tok = ⟨4, ps, 0, z, false, false, false, 0, 0⟩ := ⟨_, rfl⟩
            obtain ⟨p1, p2, p3, p4, p5⟩ := LV.pusho hV tok
            rw [htok, hsz2] at p2 p5
            rw [htok] at p1 p3 p4
            have R1 := Lib.hid p1
            have R2 := Lib.hid p2
            have R3 := Lib.hid p3
            have R4 := Lib.hid p4
            have R5 := Lib.hid p5
            clear p1 p2 p3 p4 p5 hV
            go_wp2_with (at_builtin; refine wpList_append_lies _ rfl _ _ _ rfl B 31 j0 _ 9 56 Tryd.underlying27 hj hy0 hy1 hy2 rfl (by omega) o2 Ts.length _ rfl R1.out ⟨w2.heap.size, 0, none⟩ 1 1 _ rfl rfl R2.out (by simp [Value.oneCell']) (by omega) (by unfold maxLen; omega) (by omega) R3.out (w2.heap.size + 1) (by simp) ?_; intro g3 cap3 w3 hown3 hgrow3 hat3 hlt3; have HO3 := Lib.hid hown3; have HG3 := Lib.hid hgrow3; have HA3 := Lib.hid hat3; have hx2 := (R4.out _ hgrow3).cells.2.2.1; have hf2 := (R4.out _ hgrow3).free 2; clear hown3 hgrow3 hat3 hlt3)
            go_end0
            obtain ⟨⟨V3, hV3, hL3⟩, hB3⟩ := R5.out _ _ _ HO3.out HG3.out HA3.out
            exact ⟨rfl, p + ps.size, op, Ts ++ [⟨4, ps, 0, z, false, false, false, 0, 0⟩], [], O', ⟨_, _, _, _, _, hL3⟩, (HB2.out.setCell HL2.out.bb _).trans hB3, .inl (by omega), by omega, HFIT.out, .inr ⟨_, rfl, by show (4 : Int) ≠ 2; decide⟩, by omega, by simp⟩
          · simp only [List.concat_eq_append] at HH hDs ⊢
            obtain ⟨gd, dcap, rfl, hBg, hgl⟩ := HH.out.rd.form (by simp)
            have kd : w.cell? ⟨gd, Ds.length, none⟩ = some (.int .i64 y) := by
              have e : (dcs (Ds ++ [y]))[Ds.length]? = some (.int .i64 y) := by simp [dcs]
              have := HH.out.rd.cells (g := gd) rfl _ _ e
              rwa [add_zero_at] at this
            have fd := own_free HH.out.rd (g := gd) rfl Ds.length
            have HSD := Lib.hid fun y' => LV.setd (HH.out.kept (gb_drewN (World.grownBy.refl _ _) m6)) y'
            have HBD : Hid (∀ v, Below B w ((w.drewN m6).setCell ⟨gd, Ds.length, none⟩ v)) := Lib.hid fun v => (bel_drewN B w m6).setCell hBg v
            have hl2 : (Ds ++ [y]).length = Ds.length + 1 := by simp
            rw [hl2] at c3 hDs
            have hlD : ∀ y', (Ds ++ [y']).length ≤ (Ds.concat y).length + 1 := fun y' => by simp
            have HLD := Lib.hid hlD
            clear hl2 hBg hgl hlD
            obtain ⟨nD, hnD⟩ : ∃ n, Ds.length = n := ⟨_, rfl⟩
            rw [hnD] at c3 kd fd hDs HSD HBD
            clear hnD
            have q1 : decide (((nD + 1 : Nat) : Int) > 0) = true := decide_eq_true (by omega)
            have q2 : IntKind.i64.wrap (((nD + 1 : Nat) : Int) - 1) = nD := by rw [show ((nD + 1 : Nat) : Int) - 1 = nD by omega]; exact IntWalk.i64_in _ (by omega)
            have q3 : (0 : Int) ≤ nD := by omega
            have q4 : (nD : Int) < ((nD + 1 : Nat) : Int) := by omega
            have q5 : (nD : Int) < (nD : Int) + 1 := by omega
            obtain ⟨ya, hya⟩ : ∃ x, IntKind.i64.wrap (y + 1) = x := ⟨_, rfl⟩
            obtain ⟨yb, hyb⟩ : ∃ x, IntKind.i64.wrap (y - 1) = x := ⟨_, rfl⟩
            obtain ⟨x1, hx1⟩ : ∃ x, (ps.toList == [123]) = x := ⟨_, rfl⟩
            obtain ⟨x2, hx2⟩ : ∃ x, (ps.toList == [125]) = x := ⟨_, rfl⟩
            have hgb : b ≠ gd := fun e => HH.out.ap.db (by rw [e]; rfl)
            cases x1
            · cases x2
              · go_wp2_with fail
                clear q1 q2 q3 q4 q5 kd fd hya hyb hx1 hx2 hgb
                refine (bracket_any B b s ps p op Ts (Ds ++ [y]) O _ hTs hOs ⟨_, _, _, _, _, HH.out.kept (gb_drewN (World.grownBy.refl _ _) m6)⟩).mono ?_
                rintro e w2 ⟨rfl, ⟨O', hO', o2, d2, q2, la2, co2, hL2⟩, hB2⟩
                have HB2 : Hid (Below B w w2) := Lib.hid ((bel_drewN B w m6).trans hB2)
                have HL2 := Lib.hid hL2
                clear c0 c1 c3 c4 c5 c6 f1 f2 f4 hB2 hL2
                have c1 := HL2.out.x.cells.2.1
                have f1 := HL2.out.x.free 1
                have e9 : IntKind.i64.wrap ((p : Int) + ps.size) = p + ps.size := IntWalk.i64_in _ (by omega)
                have hV : LV B b s (w2.setCell ⟨b, 1, none⟩ (.int .i64 ((p : Int) + ps.size))) (p + ps.size) op Ts (Ds ++ [y]) O' o2 d2 q2 la2 co2 := HL2.out.next (gb_set (World.grownBy.refl _ _) 1 _) (LX.set1 HL2.out.x _)
                have c2 := HL2.out.x.cells.2.2.1
                have f2 := HL2.out.x.free 2
                have hsz2 : (w2.setCell ⟨b, 1, none⟩ (.int .i64 ((p : Int) + ps.size))).heap.size = w2.heap.size := by simp
                obtain ⟨j0, hj, hy0, hy1, hy2⟩ := info_parts info31
                have HJ := Lib.hid hj
                obtain ⟨tok, htok⟩ : ∃ tok : Tok, tok = ⟨4, ps, 0, z, false, false, false, 0, 0⟩ := ⟨_, rfl⟩
                obtain ⟨p1, p2, p3, p4, p5⟩ := LV.pusho hV tok
                rw [htok, hsz2] at p2 p5
                rw [htok] at p1 p3 p4
                have R1 := Lib.hid p1
                have R2 := Lib.hid p2
                have R3 := Lib.hid p3
                have R4 := Lib.hid p4
                have R5 := Lib.hid p5
                clear p1 p2 p3 p4 p5 hV
                go_wp2_with (at_builtin; refine wpList_append_lies _ rfl _ _ _ rfl B 31 j0 _ 9 56 Tryd.underlying27 hj hy0 hy1 hy2 rfl (by omega) o2 Ts.length _ rfl R1.out ⟨w2.heap.size, 0, none⟩ 1 1 _ rfl rfl R2.out (by simp [Value.oneCell']) (by omega) (by unfold maxLen; omega) (by omega) R3.out (w2.heap.size + 1) (by simp) ?_; intro g3 cap3 w3 hown3 hgrow3 hat3 hlt3; have HO3 := Lib.hid hown3; have HG3 := Lib.hid hgrow3; have HA3 := Lib.hid hat3; have hx2 := (R4.out _ hgrow3).cells.2.2.1; have hf2 := (R4.out _ hgrow3).free 2; clear hown3 hgrow3 hat3 hlt3)
                go_end0
                obtain ⟨⟨V3, hV3, hL3⟩, hB3⟩ := R5.out _ _ _ HO3.out HG3.out HA3.out
                exact ⟨rfl, p + ps.size, op, Ts ++ [⟨4, ps, 0, z, false, false, false, 0, 0⟩], (Ds ++ [y]), O', ⟨_, _, _, _, _, hL3⟩, (HB2.out.setCell HL2.out.bb _).trans hB3, .inl (by omega), by omega, HFIT.out, .inr ⟨_, rfl, by show (4 : Int) ≠ 2; decide⟩, by omega, by simp⟩
              · go_wp2_with fail
                clear q1 q2 q3 q4 q5 kd fd hya hyb hx1 hx2 hgb
                refine (bracket_any B b s ps p op Ts (Ds ++ [yb]) O _ hTs hOs ⟨_, _, _, _, _, HSD.out yb⟩).mono ?_
                rintro e w2 ⟨rfl, ⟨O', hO', o2, d2, q2, la2, co2, hL2⟩, hB2⟩
                have HB2 : Hid (Below B w w2) := Lib.hid ((HBD.out _).trans hB2)
                have HL2 := Lib.hid hL2
                clear c0 c1 c3 c4 c5 c6 f1 f2 f4 hB2 hL2
                have c1 := HL2.out.x.cells.2.1
                have f1 := HL2.out.x.free 1
                have e9 : IntKind.i64.wrap ((p : Int) + ps.size) = p + ps.size := IntWalk.i64_in _ (by omega)
                have hV : LV B b s (w2.setCell ⟨b, 1, none⟩ (.int .i64 ((p : Int) + ps.size))) (p + ps.size) op Ts (Ds ++ [yb]) O' o2 d2 q2 la2 co2 := HL2.out.next (gb_set (World.grownBy.refl _ _) 1 _) (LX.set1 HL2.out.x _)
                have c2 := HL2.out.x.cells.2.2.1
                have f2 := HL2.out.x.free 2
                have hsz2 : (w2.setCell ⟨b, 1, none⟩ (.int .i64 ((p : Int) + ps.size))).heap.size = w2.heap.size := by simp
                obtain ⟨j0, hj, hy0, hy1, hy2⟩ := info_parts info31
                have HJ := Lib.hid hj
                obtain ⟨tok, htok⟩ : ∃ tok : Tok, tok = ⟨4, ps, 0, z, false, false, false, 0, 0⟩ := ⟨_, rfl⟩
                obtain ⟨p1, p2, p3, p4, p5⟩ := LV.pusho hV tok
                rw [htok, hsz2] at p2 p5
                rw [htok] at p1 p3 p4
                have R1 := Lib.hid p1
                have R2 := Lib.hid p2
                have R3 := Lib.hid p3
                have R4 := Lib.hid p4
                have R5 := Lib.hid p5
                clear p1 p2 p3 p4 p5 hV
                go_wp2_with (at_builtin; refine wpList_append_lies _ rfl _ _ _ rfl B 31 j0 _ 9 56 Tryd.underlying27 hj hy0 hy1 hy2 rfl (by omega) o2 Ts.length _ rfl R1.out ⟨w2.heap.size, 0, none⟩ 1 1 _ rfl rfl R2.out (by simp [Value.oneCell']) (by omega) (by unfold maxLen; omega) (by omega) R3.out (w2.heap.size + 1) (by simp) ?_; intro g3 cap3 w3 hown3 hgrow3 hat3 hlt3; have HO3 := Lib.hid hown3; have HG3 := Lib.hid hgrow3; have HA3 := Lib.hid hat3; have hx2 := (R4.out _ hgrow3).cells.2.2.1; have hf2 := (R4.out _ hgrow3).free 2; clear hown3 hgrow3 hat3 hlt3)
                go_end0
                obtain ⟨⟨V3, hV3, hL3⟩, hB3⟩ := R5.out _ _ _ HO3.out HG3.out HA3.out
                exact ⟨rfl, p + ps.size, op, Ts ++ [⟨4, ps, 0, z, false, false, false, 0, 0⟩], (Ds ++ [yb]), O', ⟨_, _, _, _, _, hL3⟩, (HB2.out.setCell HL2.out.bb _).trans hB3, .inl (by omega), by omega, HFIT.out, .inr ⟨_, rfl, by show (4 : Int) ≠ 2; decide⟩, by omega, HLD.out _⟩
            · go_wp2_with fail
              clear q1 q2 q3 q4 q5 kd fd hya hyb hx1 hx2 hgb
              refine (bracket_any B b s ps p op Ts (Ds ++ [ya]) O _ hTs hOs ⟨_, _, _, _, _, HSD.out ya⟩).mono ?_
              rintro e w2 ⟨rfl, ⟨O', hO', o2, d2, q2, la2, co2, hL2⟩, hB2⟩
              have HB2 : Hid (Below B w w2) := Lib.hid ((HBD.out _).trans hB2)
              have HL2 := Lib.hid hL2
              clear c0 c1 c3 c4 c5 c6 f1 f2 f4 hB2 hL2
              have c1 := HL2.out.x.cells.2.1
              have f1 := HL2.out.x.free 1
              have e9 : IntKind.i64.wrap ((p : Int) + ps.size) = p + ps.size := IntWalk.i64_in _ (by omega)
              have hV : LV B b s (w2.setCell ⟨b, 1, none⟩ (.int .i64 ((p : Int) + ps.size))) (p + ps.size) op Ts (Ds ++ [ya]) O' o2 d2 q2 la2 co2 := HL2.out.next (gb_set (World.grownBy.refl _ _) 1 _) (LX.set1 HL2.out.x _)
              have c2 := HL2.out.x.cells.2.2.1
              have f2 := HL2.out.x.free 2
              have hsz2 : (w2.setCell ⟨b, 1, none⟩ (.int .i64 ((p : Int) + ps.size))).heap.size = w2.heap.size := by simp
              obtain ⟨j0, hj, hy0, hy1, hy2⟩ := info_parts info31
              have HJ := Lib.hid hj
              obtain ⟨tok, htok⟩ : ∃ tok : Tok, tok = ⟨4, ps, 0, z, false, false, false, 0, 0⟩ := ⟨_, rfl⟩
              obtain ⟨p1, p2, p3, p4, p5⟩ := LV.pusho hV tok
              rw [htok, hsz2] at p2 p5
              rw [htok] at p1 p3 p4
              have R1 := Lib.hid p1
              have R2 := Lib.hid p2
              have R3 := Lib.hid p3
              have R4 := Lib.hid p4
              have R5 := Lib.hid p5
              clear p1 p2 p3 p4 p5 hV
              go_wp2_with (at_builtin; refine wpList_append_lies _ rfl _ _ _ rfl B 31 j0 _ 9 56 Tryd.underlying27 hj hy0 hy1 hy2 rfl (by omega) o2 Ts.length _ rfl R1.out ⟨w2.heap.size, 0, none⟩ 1 1 _ rfl rfl R2.out (by simp [Value.oneCell']) (by omega) (by unfold maxLen; omega) (by omega) R3.out (w2.heap.size + 1) (by simp) ?_; intro g3 cap3 w3 hown3 hgrow3 hat3 hlt3; have HO3 := Lib.hid hown3; have HG3 := Lib.hid hgrow3; have HA3 := Lib.hid hat3; have hx2 := (R4.out _ hgrow3).cells.2.2.1; have hf2 := (R4.out _ hgrow3).free 2; clear hown3 hgrow3 hat3 hlt3)
              go_end0
              obtain ⟨⟨V3, hV3, hL3⟩, hB3⟩ := R5.out _ _ _ HO3.out HG3.out HA3.out
              exact ⟨rfl, p + ps.size, op, Ts ++ [⟨4, ps, 0, z, false, false, false, 0, 0⟩], (Ds ++ [ya]), O', ⟨_, _, _, _, _, hL3⟩, (HB2.out.setCell HL2.out.bb _).trans hB3, .inl (by omega), by omega, HFIT.out, .inr ⟨_, rfl, by show (4 : Int) ≠ 2; decide⟩, by omega, HLD.out _⟩
        · go_wp2_with fail
          go_end0
          exact ⟨rfl, p, true, Ts, D, O, ⟨_, _, _, _, _, HH.out.next (gb_set (gb_drewN (World.grownBy.refl _ _) m6) 4 (.bool true)) (LX.set4 (HH.out.x) true)⟩, gb_below (gb_set (gb_drewN (World.grownBy.refl _ _) m6) 4 (.bool true)) HH.out.bb HH.out.bw, .inr rfl, by omega, by omega, .inl ⟨rfl, rfl⟩, by omega, by omega⟩
      · go_wp2_with fail
        exact HK.out (57 - (k + 1)) (k + 1) _ _ (by have := HN.out; omega) ⟨rfl, by omega, _, rfl⟩ (F22_at _ _ _ _ rfl ⟨rfl, rfl, rfl, rfl, trivial⟩)
    · clear hy
      go_wp2_with fail
      exact HK.out (57 - (k + 1)) (k + 1) _ _ (by have := HN.out; omega) ⟨rfl, by omega, _, rfl⟩ (F22_at _ _ _ _ rfl ⟨rfl, rfl, rfl, rfl, trivial⟩)
  · have g1 : decide ((k : Int) < 57) = false := decide_eq_false (by omega)
    go_wp2_with fail
    go_end0
    exact ⟨rfl, p, true, Ts, D, O, ⟨_, _, _, _, _, HH.out.next (gb_set (gb_drewN (World.grownBy.refl _ _) m) 4 (.bool true)) (LX.set4 (HH.out.x) true)⟩, gb_below (gb_set (gb_drewN (World.grownBy.refl _ _) m) 4 (.bool true)) HH.out.bb HH.out.bw, .inr rfl, by omega, by omega, .inl ⟨rfl, rfl⟩, by omega, by omega⟩
end Go.Proofs.YtblphppdfiipfaaDoor
