/- The lexer goes over a run of digits. Conditions: none. -/
import Derived.Test.YtblphppdfiipfaaDoorCLetter
import Derived.Test.YtblphppdfiipfaaDoorCFloE
namespace Go.Proofs.YtblphppdfiipfaaDoor
open Go.RowKit
set_option maxRecDepth 100000

def hd (c : Nat) : Int := if dg c = true then (c : Int) - 48 else if 97 ≤ (c ||| 32) ∧ (c ||| 32) ≤ 102 then ((c ||| 32 : Nat) : Int) - 97 + 10 else 99
set_option maxHeartbeats 1000000 in
theorem hexdigit_any (c : Nat) (w : World) (hc : c < 256) : Calls Tryd.prog 27 #[.int .u8 c] w fun e w' => e = .returned (.int .i64 (hd c)) ∧ w' = w := by
  obtain ⟨h, hh⟩ : ∃ h, hd c = h := ⟨_, rfl⟩
  rw [hh]
  unfold hd at hh
  have ho := or32 c hc
  have hob : (c ||| 32) < 256 := by
    have := Nat.or_lt_two_pow (n := 8) (x := c) (y := 32) (by omega) (by omega)
    omega
  obtain ⟨o, hoo⟩ : ∃ o, c ||| 32 = o := ⟨_, rfl⟩
  rw [hoo] at ho hh hob
  clear hoo
  have HD := Lib.hid (isDigit_any (c : Int) w)
  cases hdg : dg (c : Int)
  · rw [hdg] at hh HD
    rw [if_neg (by decide)] at hh
    by_cases h1 : 97 ≤ o ∧ o ≤ 102
    · rw [if_pos h1] at hh
      obtain ⟨h2, h3⟩ := h1
      have HH := Lib.hid hh
      have w1 : IntKind.u8.wrap ((o : Int) - 97) = (o : Int) - 97 := IntWalk.u8_in _ (by omega)
      clear hh hdg
      go_enter Tryd.func27, Tryd.ntmps27
      go_wp2_with fail
      refine (HD.out).mono ?_
      rintro e w' ⟨rfl, rfl⟩
      go_wp2
      go_ret
      exact ⟨by rw [← HH.out]; rfl, rfl⟩
    · rw [if_neg h1] at hh
      have HH := Lib.hid hh
      have HN := Lib.hid h1
      clear hh hdg h1
      go_enter Tryd.func27, Tryd.ntmps27
      go_wp2_with fail
      refine (HD.out).mono ?_
      rintro e w' ⟨rfl, rfl⟩
      go_wp2
      all_goals first
        | (exfalso; have := HN.out; omega)
        | (go_ret
           exact ⟨by rw [← HH.out]; rfl, rfl⟩)
  · rw [hdg] at hh HD
    rw [if_pos rfl] at hh
    have hb : 48 ≤ (c : Int) ∧ (c : Int) ≤ 57 := by unfold dg at hdg; exact of_decide_eq_true hdg
    have w1 : IntKind.u8.wrap ((c : Int) - 48) = (c : Int) - 48 := IntWalk.u8_in _ (by omega)
    have HH := Lib.hid hh
    clear hh hdg
    go_enter Tryd.func27, Tryd.ntmps27
    go_wp2_with fail
    refine (HD.out).mono ?_
    rintro e w' ⟨rfl, rfl⟩
    go_wp2
    go_ret
    exact ⟨by rw [← HH.out]; rfl, rfl⟩

def hx (k : Int) (c : Nat) : Bool := decide (hd c < k)
set_option maxHeartbeats 1000000 in
theorem below_any (c b9 b8 : Nat) (k : Int) (w : World) (hc : c < 256) (h9 : w.cell? ⟨b9, 0, none⟩ = some (.func (.func 27) #[] #[])) (h8 : w.cell? ⟨b8, 0, none⟩ = some (.int .i64 k)) :
    Calls Tryd.prog 28 #[.int .u8 c, .pointer (some ⟨b9, 0, none⟩), .pointer (some ⟨b8, 0, none⟩)] w fun e w' => e = .returned (.bool (hx k c)) ∧ ∃ n, w' = w.drewN n := by
  obtain ⟨b, hb⟩ : ∃ b, hx k c = b := ⟨_, rfl⟩
  have hb2 := hb
  unfold hx at hb2
  obtain ⟨h, hh⟩ : ∃ h, hd c = h := ⟨_, rfl⟩
  have HC := Lib.hid fun w => hexdigit_any c w hc
  rw [hh] at hb2 HC
  rw [hb]
  have HB := Lib.hid hb2
  clear hb hb2 hh
  go_enter Tryd.func28, Tryd.ntmps28
  go_wp2
  go_quiet ((go_at_call 27; exact (HC.out _).mono fun _ _ h => ⟨h.1, _, h.2⟩))
  go_wp2
  go_ret
  exact ⟨by rw [← HB.out]; rfl, _, rfl⟩

/-- where the run of such bytes ends -/
def spn (P : Nat → Bool) (s : ByteArray) : Nat → Nat → Nat
  | 0, p => p
  | f + 1, p => if p < s.size ∧ P (bt s p) = true then spn P s f (p + 1) else p
theorem spn_b (P : Nat → Bool) (s : ByteArray) : ∀ f p, p ≤ s.size → p ≤ spn P s f p ∧ spn P s f p ≤ s.size
  | 0, p, h => ⟨Nat.le_refl _, h⟩
  | f + 1, p, h => by
    unfold spn
    by_cases hc : p < s.size ∧ P (bt s p) = true
    · rw [if_pos hc]
      have := spn_b P s f (p + 1) (by omega)
      omega
    · rw [if_neg hc]; exact ⟨Nat.le_refl _, h⟩
set_option maxRecDepth 100000

def F26d (bx bs n : Nat) : (Nat → Value) → Act := FG 33 [(0, .func (.func 8) #[] #[]), (1, .pointer (some ⟨bx, 0, none⟩)), (2, .pointer (some ⟨bs, 0, none⟩)), (5, .int .i64 n)]
theorem F26d_lit (bx bs n : Nat) (u : Nat → Value) : F26d bx bs n u = { tmps := #[.func (.func 8) #[] #[], .pointer (some ⟨bx, 0, none⟩), .pointer (some ⟨bs, 0, none⟩), u 3, u 4, .int .i64 n, u 6, u 7, u 8, u 9, u 10, u 11, u 12, u 13, u 14, u 15, u 16, u 17, u 18, u 19, u 20, u 21, u 22, u 23, u 24, u 25, u 26, u 27, u 28, u 29, u 30, u 31, u 32], defers := [] } := by kernel_rfl
theorem F26d_at (bx bs n : Nat) {L : List Value} (hl : L.length = 33) (hn : NmOk L [(0, .func (.func 8) #[] #[]), (1, .pointer (some ⟨bx, 0, none⟩)), (2, .pointer (some ⟨bs, 0, none⟩)), (5, .int .i64 n)]) : (F26d bx bs n fun k => (Act.mk L.toArray []).tmps.getD k undef) = { tmps := L.toArray, defers := [] } := FG_at hl hn
def F26h (b9 b8 bx bs n : Nat) : (Nat → Value) → Act := FG 33 [(0, .func (.func 28) #[] #[.pointer (some ⟨b9, 0, none⟩), .pointer (some ⟨b8, 0, none⟩)]), (1, .pointer (some ⟨bx, 0, none⟩)), (2, .pointer (some ⟨bs, 0, none⟩)), (5, .int .i64 n)]
theorem F26h_lit (b9 b8 bx bs n : Nat) (u : Nat → Value) : F26h b9 b8 bx bs n u = { tmps := #[.func (.func 28) #[] #[.pointer (some ⟨b9, 0, none⟩), .pointer (some ⟨b8, 0, none⟩)], .pointer (some ⟨bx, 0, none⟩), .pointer (some ⟨bs, 0, none⟩), u 3, u 4, .int .i64 n, u 6, u 7, u 8, u 9, u 10, u 11, u 12, u 13, u 14, u 15, u 16, u 17, u 18, u 19, u 20, u 21, u 22, u 23, u 24, u 25, u 26, u 27, u 28, u 29, u 30, u 31, u 32], defers := [] } := by kernel_rfl
theorem F26h_at (b9 b8 bx bs n : Nat) {L : List Value} (hl : L.length = 33) (hn : NmOk L [(0, .func (.func 28) #[] #[.pointer (some ⟨b9, 0, none⟩), .pointer (some ⟨b8, 0, none⟩)]), (1, .pointer (some ⟨bx, 0, none⟩)), (2, .pointer (some ⟨bs, 0, none⟩)), (5, .int .i64 n)]) : (F26h b9 b8 bx bs n fun k => (Act.mk L.toArray []).tmps.getD k undef) = { tmps := L.toArray, defers := [] } := FG_at hl hn
def dgP (c : Nat) : Bool := dg (c : Int)
def RunPost (w : World) (b : Nat) (s : ByteArray) (p E : Nat) (o d : Value) (op : Bool) (q : Value) (la co : Bool) (e : Ending) (w' : World) : Prop :=
  e = .returned (.int .i64 ((E - p : Nat) : Int)) ∧ LX w' b s E o d op q la co ∧ w.grownBy w' (some b)
def RunRel (P : Nat → Bool) (w : World) (b : Nat) (s : ByteArray) (p E : Nat) (o d : Value) (op : Bool) (q : Value) (la co : Bool) (f i : Nat) (wr : World) : Prop :=
  s.size - i ≤ f ∧ spn P s f i = E ∧ p ≤ i ∧ i ≤ s.size ∧ LX wr b s i o d op q la co ∧ w.grownBy wr (some b)
theorem gb_cell {w w' : World} {g : Nat} (h : w.grownBy w' (some g)) {a : Addr} {v : Value} (hb : a.block ≠ g) (hc : w.cell? a = some v) : w'.cell? a = some v := by
  have hlt : a.block < w.heap.size := by
    refine Nat.lt_of_not_le fun hn => ?_
    have : w.heap[a.block]? = none := Array.getElem?_eq_none hn
    simp [World.cell?, this] at hc
  rw [World.cell?_of_block (h.block a.block hlt (by simpa using hb))]
  exact hc

set_option maxHeartbeats 2000000 in
theorem rund_any (bx bs b : Nat) (s : ByteArray) (p : Nat) (o d : Value) (op : Bool) (q : Value) (la co : Bool) (w : World) (hs : s.size ≤ 100) (hp : p ≤ s.size)
    (hX : LX w b s p o d op q la co) (hbx : w.cell? ⟨bx, 0, none⟩ = some (.pointer (some ⟨b, 0, none⟩))) (hbs : w.cell? ⟨bs, 0, none⟩ = some (.string s)) (hnx : bx ≠ b) (hns : bs ≠ b) :
    Calls Tryd.prog 26 #[.func (.func 8) #[] #[], .pointer (some ⟨bx, 0, none⟩), .pointer (some ⟨bs, 0, none⟩)] w (RunPost w b s p (spn dgP s s.size p) o d op q la co) := by
  have HX := Lib.hid hX; clear hX
  obtain ⟨E, hE⟩ : ∃ E, spn dgP s s.size p = E := ⟨_, rfl⟩
  rw [hE]
  have HE := Lib.hid hE; clear hE
  have HBX := Lib.hid hbx
  have HBS := Lib.hid hbs

  go_enter Tryd.func26, Tryd.ntmps26
  go_wp2
  clear hbx hbs
  refine wp_loop_x (fun i : Nat => F26d bx bs (i - p)) (RunRel dgP w b s p E o d op q la co) s.size p ⟨by omega, HE.out, Nat.le_refl _, hp, HX.out, World.grownBy.refl _ _⟩ (F26d_at _ _ _ rfl ⟨rfl, rfl, rfl, by show _ = Value.int .i64 ((p - p : Nat) : Int); rw [Nat.sub_self]; rfl, trivial⟩) ?_
  rintro f i u wr ⟨hf, hsp, hpi, his, hL, hG⟩ K hK
  have HK := Lib.hid hK; clear hK
  have hbx := gb_cell hG (show (⟨bx, 0, none⟩ : Addr).block ≠ b from hnx) HBX.out
  have hbs := gb_cell hG (show (⟨bs, 0, none⟩ : Addr).block ≠ b from hns) HBS.out

  have HG := Lib.hid hG; clear hG
  obtain ⟨_, c1, _, _, _, _, _, _, _⟩ := hL.cells
  have f1 := hL.free 1
  have HL := Lib.hid hL; clear hL
  rw [F26d_lit]
  have HSP := Lib.hid hsp
  clear hsp
  by_cases hlt : i < s.size
  · obtain ⟨c, hc⟩ : ∃ c : Nat, s[i].toNat = c := ⟨_, rfl⟩
    have hcb : bt s i = c := by rw [bt_eq hlt, hc]
    have hc256 : c < 256 := by rw [← hc]; exact s[i].toNat_lt
    have g1 : decide ((i : Int) < s.size) = true := decide_eq_true (by omega)
    have w1 : (i : Int) < s.size := by omega
    cases hd : dgP c
    · have HE2 : Hid (i = E) := Lib.hid (by
        have := HSP.out
        cases f with
        | zero => exact this
        | succ f => rw [spn, if_neg (by rw [hcb, hd]; simp)] at this; exact this)
      have HD := Lib.hid fun w => isDigit_any (c : Int) w
      rw [show dg (c : Int) = false from hd] at HD
      clear hd hcb hc256
      go_wp2
      go_quiet ((go_at_call 8; exact (HD.out _).mono fun _ _ h => ⟨h.1, _, h.2⟩))
      go_wp2
      go_ret
      exact ⟨by rw [← HE2.out]; rfl, by rw [← HE2.out]; exact HL.out, gb_drewN HG.out _⟩
    · obtain ⟨f, rfl⟩ : ∃ f', f = f' + 1 := ⟨f - 1, by omega⟩
      have HE2 : Hid (spn dgP s f (i + 1) = E) := Lib.hid (by
        have := HSP.out
        rw [spn, if_pos ⟨hlt, by rw [hcb]; exact hd⟩] at this
        exact this)
      have HD := Lib.hid fun w => isDigit_any (c : Int) w
      rw [show dg (c : Int) = true from hd] at HD
      have w2 : IntKind.i64.wrap ((i : Int) + 1) = (i : Int) + 1 := IntWalk.i64_in _ (by omega)
      have w3 : IntKind.i64.wrap (((i - p : Nat) : Int) + 1) = ((i + 1 - p : Nat) : Int) := by rw [show ((i - p : Nat) : Int) + 1 = ((i + 1 - p : Nat) : Int) by omega]; exact IntWalk.i64_in _ (by omega)
      obtain ⟨m, hm⟩ : ∃ m, i - p = m := ⟨_, rfl⟩
      obtain ⟨m2, hm2⟩ : ∃ m, i + 1 - p = m := ⟨_, rfl⟩
      rw [hm, hm2] at w3
      rw [hm]
      have HM2 := Lib.hid hm2
      clear hd hcb hc256 hm hm2
      go_wp2
      go_quiet ((go_at_call 8; exact (HD.out _).mono fun _ _ h => ⟨h.1, _, h.2⟩))
      go_wp2
      exact HK.out f (i + 1) _ _ (by omega) ⟨by omega, HE2.out, by omega, by omega, LX.set1 (p := i) (by exact HL.out) _, by refine gb_set ?_ _ _; exact gb_drewN HG.out _⟩ (F26d_at _ _ _ rfl ⟨rfl, rfl, rfl, by show _ = Value.int .i64 ((i + 1 - p : Nat) : Int); rw [HM2.out]; rfl, trivial⟩)
  · have HE2 : Hid (i = E) := Lib.hid (by
      have := HSP.out
      cases f with
      | zero => exact this
      | succ f => rw [spn, if_neg (fun h => hlt h.1)] at this; exact this)
    have g1 : decide ((i : Int) < s.size) = false := decide_eq_false (by omega)
    go_wp2
    go_quiet (fail)
    go_wp2
    go_ret
    exact ⟨by rw [← HE2.out]; rfl, by rw [← HE2.out]; exact HL.out, gb_drewN HG.out _⟩

set_option maxHeartbeats 2000000 in
theorem runh_any (b9 b8 : Nat) (k : Int) (bx bs b : Nat) (s : ByteArray) (p : Nat) (o d : Value) (op : Bool) (q : Value) (la co : Bool) (w : World) (hs : s.size ≤ 100) (hp : p ≤ s.size)
    (hX : LX w b s p o d op q la co) (hbx : w.cell? ⟨bx, 0, none⟩ = some (.pointer (some ⟨b, 0, none⟩))) (hbs : w.cell? ⟨bs, 0, none⟩ = some (.string s)) (hnx : bx ≠ b) (hns : bs ≠ b) (h9 : w.cell? ⟨b9, 0, none⟩ = some (.func (.func 27) #[] #[])) (h8 : w.cell? ⟨b8, 0, none⟩ = some (.int .i64 k)) (hn9 : b9 ≠ b) (hn8 : b8 ≠ b) :
    Calls Tryd.prog 26 #[.func (.func 28) #[] #[.pointer (some ⟨b9, 0, none⟩), .pointer (some ⟨b8, 0, none⟩)], .pointer (some ⟨bx, 0, none⟩), .pointer (some ⟨bs, 0, none⟩)] w (RunPost w b s p (spn (hx k) s s.size p) o d op q la co) := by
  have HX := Lib.hid hX; clear hX
  obtain ⟨E, hE⟩ : ∃ E, spn (hx k) s s.size p = E := ⟨_, rfl⟩
  rw [hE]
  have HE := Lib.hid hE; clear hE
  have HBX := Lib.hid hbx
  have HBS := Lib.hid hbs
  have H9 := Lib.hid h9
  have H8 := Lib.hid h8
  clear h9 h8
  go_enter Tryd.func26, Tryd.ntmps26
  go_wp2
  clear hbx hbs
  refine wp_loop_x (fun i : Nat => F26h b9 b8 bx bs (i - p)) (RunRel (hx k) w b s p E o d op q la co) s.size p ⟨by omega, HE.out, Nat.le_refl _, hp, HX.out, World.grownBy.refl _ _⟩ (F26h_at _ _ _ _ _ rfl ⟨rfl, rfl, rfl, by show _ = Value.int .i64 ((p - p : Nat) : Int); rw [Nat.sub_self]; rfl, trivial⟩) ?_
  rintro f i u wr ⟨hf, hsp, hpi, his, hL, hG⟩ K hK
  have HK := Lib.hid hK; clear hK
  have hbx := gb_cell hG (show (⟨bx, 0, none⟩ : Addr).block ≠ b from hnx) HBX.out
  have hbs := gb_cell hG (show (⟨bs, 0, none⟩ : Addr).block ≠ b from hns) HBS.out
  have h9 := gb_cell hG (show (⟨b9, 0, none⟩ : Addr).block ≠ b from hn9) H9.out
  have h8 := gb_cell hG (show (⟨b8, 0, none⟩ : Addr).block ≠ b from hn8) H8.out
  have HG := Lib.hid hG; clear hG
  obtain ⟨_, c1, _, _, _, _, _, _, _⟩ := hL.cells
  have f1 := hL.free 1
  have HL := Lib.hid hL; clear hL
  rw [F26h_lit]
  have HSP := Lib.hid hsp
  clear hsp
  by_cases hlt : i < s.size
  · obtain ⟨c, hc⟩ : ∃ c : Nat, s[i].toNat = c := ⟨_, rfl⟩
    have hcb : bt s i = c := by rw [bt_eq hlt, hc]
    have hc256 : c < 256 := by rw [← hc]; exact s[i].toNat_lt
    have g1 : decide ((i : Int) < s.size) = true := decide_eq_true (by omega)
    have w1 : (i : Int) < s.size := by omega
    cases hd : (hx k) c
    · have HE2 : Hid (i = E) := Lib.hid (by
        have := HSP.out
        cases f with
        | zero => exact this
        | succ f => rw [spn, if_neg (by rw [hcb, hd]; simp)] at this; exact this)
      have hD : ∀ n, Calls Tryd.prog 28 #[.int .u8 c, .pointer (some ⟨b9, 0, none⟩), .pointer (some ⟨b8, 0, none⟩)] (wr.drewN n) fun e w' => e = .returned (.bool (hx k c)) ∧ ∃ m, w' = wr.drewN m := fun n =>
        (below_any c b9 b8 k (wr.drewN n) hc256 h9 h8).mono fun e w' h => ⟨h.1, by obtain ⟨m, rfl⟩ := h.2; exact ⟨n + m, by simp [World.drewN, Nat.add_assoc]⟩⟩
      rw [show hx k c = false from hd] at hD
      have HD := Lib.hid hD
      clear hD h9 h8
      clear hd hcb hc256
      go_wp2
      go_quiet ((go_at_call 28; exact HD.out _))
      go_wp2
      go_ret
      exact ⟨by rw [← HE2.out]; rfl, by rw [← HE2.out]; exact HL.out, gb_drewN HG.out _⟩
    · obtain ⟨f, rfl⟩ : ∃ f', f = f' + 1 := ⟨f - 1, by omega⟩
      have HE2 : Hid (spn (hx k) s f (i + 1) = E) := Lib.hid (by
        have := HSP.out
        rw [spn, if_pos ⟨hlt, by rw [hcb]; exact hd⟩] at this
        exact this)
      have hD : ∀ n, Calls Tryd.prog 28 #[.int .u8 c, .pointer (some ⟨b9, 0, none⟩), .pointer (some ⟨b8, 0, none⟩)] (wr.drewN n) fun e w' => e = .returned (.bool (hx k c)) ∧ ∃ m, w' = wr.drewN m := fun n =>
        (below_any c b9 b8 k (wr.drewN n) hc256 h9 h8).mono fun e w' h => ⟨h.1, by obtain ⟨m, rfl⟩ := h.2; exact ⟨n + m, by simp [World.drewN, Nat.add_assoc]⟩⟩
      rw [show hx k c = true from hd] at hD
      have HD := Lib.hid hD
      clear hD h9 h8
      have w2 : IntKind.i64.wrap ((i : Int) + 1) = (i : Int) + 1 := IntWalk.i64_in _ (by omega)
      have w3 : IntKind.i64.wrap (((i - p : Nat) : Int) + 1) = ((i + 1 - p : Nat) : Int) := by rw [show ((i - p : Nat) : Int) + 1 = ((i + 1 - p : Nat) : Int) by omega]; exact IntWalk.i64_in _ (by omega)
      obtain ⟨m, hm⟩ : ∃ m, i - p = m := ⟨_, rfl⟩
      obtain ⟨m2, hm2⟩ : ∃ m, i + 1 - p = m := ⟨_, rfl⟩
      rw [hm, hm2] at w3
      rw [hm]
      have HM2 := Lib.hid hm2
      clear hd hcb hc256 hm hm2
      go_wp2
      go_quiet ((go_at_call 28; exact HD.out _))
      go_wp2
      exact HK.out f (i + 1) _ _ (by omega) ⟨by omega, HE2.out, by omega, by omega, LX.set1 (p := i) (by exact HL.out) _, by refine gb_set ?_ _ _; exact gb_drewN HG.out _⟩ (F26h_at _ _ _ _ _ rfl ⟨rfl, rfl, rfl, by show _ = Value.int .i64 ((i + 1 - p : Nat) : Int); rw [HM2.out]; rfl, trivial⟩)
  · have HE2 : Hid (i = E) := Lib.hid (by
      have := HSP.out
      cases f with
      | zero => exact this
      | succ f => rw [spn, if_neg (fun h => hlt h.1)] at this; exact this)
    have g1 : decide ((i : Int) < s.size) = false := decide_eq_false (by omega)
    go_wp2
    go_quiet (fail)
    go_wp2
    go_ret
    exact ⟨by rw [← HE2.out]; rfl, by rw [← HE2.out]; exact HL.out, gb_drewN HG.out _⟩
end Go.Proofs.YtblphppdfiipfaaDoor
