/- atof64 gives the plain value of a text. Conditions: none. -/
import Derived.Test.YtblphppdfiipfaaDoorCReadG
import Derived.Test.YtblphppdfiipfaaDoorCDecF
import Derived.Test.YtblphppdfiipfaaDoorCDecG
import Derived.Test.YtblphppdfiipfaaDoorCVal
namespace Go.Proofs.YtblphppdfiipfaaDoor
open Go.RowKit
open Dc
set_option maxRecDepth 100000

/-- what the slow way reads of the program's variables -/
def SlX (w : World) : Prop :=
  (∃ a cap, w.cell? ⟨13, 0, none⟩ = some (.slice (some a) 61 cap) ∧ ∀ k, k ≤ 60 → w.cell? (a.add (k * 2)) = some (.int .i64 (dK k)) ∧
    ∃ s : ByteArray, s.data.toList = (cheat k).2 ∧ w.cell? ⟨(a.add (k * 2)).block, (a.add (k * 2)).off + 1, none⟩ = some (.string s)) ∧
  (∃ a cap, w.cell? ⟨9, 0, none⟩ = some (.slice (some a) 9 cap) ∧ ∀ i, i < 9 → w.cell? (a.add i) = some (.int .i64 (pt.getD i 1))) ∧
  w.cell? ⟨7, 0, none⟩ = some (.int .u64 52) ∧ w.cell? ⟨7, 1, none⟩ = some (.int .u64 11) ∧ w.cell? ⟨7, 2, none⟩ = some (.int .i64 (-1023))
theorem lt_cell {w : World} {a : Addr} {v : Value} (h : w.cell? a = some v) : a.block < w.heap.size := by
  refine Nat.lt_of_not_le fun hn => ?_
  have : w.heap[a.block]? = none := Array.getElem?_eq_none hn
  simp [World.cell?, this] at h
/-- cells that were there are kept -/
def Kept (w w' : World) (g : Nat) : Prop := ∀ k, k < w.heap.size → k < g → w'.heap[k]? = w.heap[k]?
theorem Kept.cell {w w' : World} {g : Nat} (h : Kept w w' g) (hg : w.heap.size ≤ g) {a : Addr} {v : Value} (hc : w.cell? a = some v) : w'.cell? a = some v := by
  have hlt := lt_cell hc
  rw [World.cell?_of_block (h a.block hlt (by omega))]
  exact hc
theorem SlX.at {w w' : World} {g : Nat} (h : SlX w) (hk : Kept w w' g) (hg : w.heap.size ≤ g) : SlE g w' := by
  obtain ⟨⟨a, cap, b2, b3⟩, ⟨c, cap2, d2, d3⟩, e1, e2, e3⟩ := h
  have q13 := lt_cell b2
  have q9 := lt_cell d2
  have q7 := lt_cell e1
  simp only at q13 q9 q7
  have qa := lt_cell (b3 0 (by omega)).1
  have qc := lt_cell (d3 0 (by omega))
  rw [add_block] at qa qc
  refine ⟨⟨by omega, by omega, by omega⟩, ⟨a, cap, by omega, hk.cell hg b2, fun k hk2 => ?_⟩, ⟨c, cap2, by omega, hk.cell hg d2, fun i hi => hk.cell hg (d3 i hi)⟩, hk.cell hg e1, hk.cell hg e2, hk.cell hg e3⟩
  obtain ⟨f1, s, f2, f3⟩ := b3 k hk2
  exact ⟨hk.cell hg f1, s, f2, hk.cell hg f3⟩
theorem gbn_cell {w w' : World} (h : w.grownBy w' none) {a : Addr} {v : Value} (hc : w.cell? a = some v) : w'.cell? a = some v := by
  rw [World.cell?_of_block (h.block a.block (lt_cell hc) (by simp))]
  exact hc
theorem TabE.later {w w' : World} (h : TabE w) (hg : w.grownBy w' none) : TabE w' := fun i r hr => ⟨gbn_cell hg (h i r hr).1, gbn_cell hg (h i r hr).2⟩
theorem SlX.later {w w' : World} (h : SlX w) (hg : w.grownBy w' none) : SlX w' := by
  obtain ⟨⟨a, cap, b2, b3⟩, ⟨c, cap2, d2, d3⟩, e1, e2, e3⟩ := h
  refine ⟨⟨a, cap, gbn_cell hg b2, fun k hk2 => ?_⟩, ⟨c, cap2, gbn_cell hg d2, fun i hi => gbn_cell hg (d3 i hi)⟩, gbn_cell hg e1, gbn_cell hg e2, gbn_cell hg e3⟩
  obtain ⟨f1, s, f2, f3⟩ := b3 k hk2
  exact ⟨gbn_cell hg f1, s, f2, gbn_cell hg f3⟩

theorem zero114 : dcells (fun _ => 0) 0 0 false = Tryd.zeroCells114 := by kernel_rfl
theorem gb_new {w w4 : World} {x : Obj} (h : w.grownBy w4 none) : ∀ w' : World, (w4.alloc x).grownBy w' (some w4.heap.size) → w.grownBy w' none := by
  intro w' hg
  have ha := World.grownBy_alloc w4 x none
  have h2 := Lib.grownBy_trans h ha
  refine ⟨hg.os.trans h2.os, hg.tape.trans h2.tape, hg.output.trans h2.output, Nat.le_trans h2.size hg.size, fun k hk _ => ?_⟩
  have h4 := h.size
  rw [hg.block k (Nat.lt_of_lt_of_le hk h2.size) (by simp; omega)]
  exact h2.block k hk (by simp)
set_option maxHeartbeats 4000000 in
theorem atof_long (s : ByteArray) (q : Nat) (ex : Int) (w : World) (T : FlE w) (X : SlX w) (hs : s.size ≤ 100) (hq : q ≤ s.size) (hq0 : 0 < q) (hM : MOk s q) (hE : EOk s q ex) (htr : (mst s q).tr = true) :
    Calls Tryd.prog 52 #[.string s] w (AfPost s (longF (mst s q).m (rfE (mst s q) ex) (fV s q) (fD s q ex)) w) := by
  have h0 : 0 < s.size := by omega
  obtain ⟨_, hm0, hbig, hrf⟩ := gF_long (ex := ex) (by omega) hM htr
  have C1 := Lib.hid fun w => special_any s w h0 (by
    rcases hM.1 0 hq0 with h | h
    · exact .inl h
    · exact .inr h)
  have C2 := Lib.hid fun w => readFloat_any s q ex w hs hq hq0 hM hE
  have CS := Lib.hid fun g w hD => set_any s q ex g w hs hq hq0 hM hE hD
  have hm18 : (mst s q).m < 10 ^ 19 := by
    have hB := mst_b s q hM.1
    have b1 : (mst s q).m < 10 ^ (mst s q).k := hB.1
    have b2 : 10 ^ (mst s q).k ≤ 10 ^ 19 := Nat.pow_le_pow_right (by omega) hB.2.1
    omega
  obtain ⟨m, hm⟩ : ∃ m, (mst s q).m = m := ⟨_, rfl⟩
  obtain ⟨p, hp⟩ : ∃ p, rfE (mst s q) ex = p := ⟨_, rfl⟩
  obtain ⟨V, hV⟩ : ∃ V, fV s q = V := ⟨_, rfl⟩
  obtain ⟨D, hD⟩ : ∃ D, fD s q ex = D := ⟨_, rfl⟩
  unfold SetPost at CS
  rw [show ((if (mst s q).dot then (mst s q).dp else ((mst s q).nd : Int)) + ex) = fD s q ex from rfl, hV, hD] at CS
  rw [hm, hp, htr] at C2
  rw [hm, hp, hV, hD]
  rw [hm] at hm0 hm18
  rw [hV] at hbig
  rw [hp, hD] at hrf
  unfold RfPost at C2
  have fb := frombits
  obtain ⟨T1, T2, c6⟩ := T
  have g1 : ((m : Int) == 0) = false := by simp [hm0]
  have HB := Lib.hid hbig
  clear hM hE hm hV hD htr hbig
  by_cases hp1 : 310 < p
  · have gp : decide (p > 310) = true := decide_eq_true hp1
    have hF : Hid (longF m p V D = Rnd.infR) := Lib.hid (by unfold longF; rw [if_pos hp1])
    clear hp1 hrf hp
    go_enter Tryd.func52, Tryd.ntmps52
    go_wp2_with fail
    refine (C1.out _).mono ?_
    rintro e w1 ⟨rfl, rfl⟩
    go_wp2_with fail
    refine (C2.out _).mono ?_
    rintro e w1 ⟨rfl, rfl⟩
    go_wp2_with (go_at_call 63; refine (bool2u_any _ _).mono ?_; rintro e w1 ⟨rfl, rfl⟩)
    go_ret3
    exact ⟨_, by rw [hF.out]; rfl, .inr rfl, World.grownBy.refl _ _⟩
  have gp : decide (p > 310) = false := decide_eq_false hp1
  by_cases hp2 : p < -345
  · have gp2 : decide (p < -345) = true := decide_eq_true hp2
    have hF : Hid (longF m p V D = 0) := Lib.hid (by unfold longF; rw [if_neg hp1, if_pos hp2])
    clear hp1 hp2 hrf hp
    go_enter Tryd.func52, Tryd.ntmps52
    go_wp2_with fail
    refine (C1.out _).mono ?_
    rintro e w1 ⟨rfl, rfl⟩
    go_wp2_with fail
    refine (C2.out _).mono ?_
    rintro e w1 ⟨rfl, rfl⟩
    go_wp2_with (go_at_call 63; refine (bool2u_any _ _).mono ?_; rintro e w1 ⟨rfl, rfl⟩)
    go_ret3
    exact ⟨_, by rw [hF.out]; rfl, .inl rfl, World.grownBy.refl _ _⟩
  have gp2 : decide (p < -345) = false := decide_eq_false hp2
  have C4 := Lib.hid fun w (T : TabE w) => parse_any m p w T hm0 (by omega) (by omega) (by omega)
  have C5 := Lib.hid fun w (T : TabE w) => parse_any (m + 1) p w T (by omega) (by omega) (by omega) (by omega)
  have hF : Hid (longF m p V D = if feq (Rnd.pfF m p) (Rnd.pfF (m + 1) p) = true then Rnd.pfF m p else (slowB V D).1) := Lib.hid (by unfold longF; rw [if_neg hp1, if_neg hp2])
  have wm : IntKind.u64.wrap ((m : Int) + 1) = ((m + 1 : Nat) : Int) := IntWalk.u64_in _ (by omega)
  have HP : Hid (p = D - 19 ∧ -345 ≤ p ∧ p ≤ 310) := Lib.hid ⟨hrf, by omega, by omega⟩
  clear hp1 hp2 hrf hp hm18 hm0
  go_enter Tryd.func52, Tryd.ntmps52
  go_wp2_with fail
  refine (C1.out _).mono ?_
  rintro e w1 ⟨rfl, rfl⟩
  go_wp2_with fail
  refine (C2.out _).mono ?_
  rintro e w1 ⟨rfl, rfl⟩
  go_wp2_with (go_at_call 63; refine (bool2u_any _ _).mono ?_; rintro e w1 ⟨rfl, rfl⟩)
  refine (C4.out _ T1).mono ?_
  rintro e w3 ⟨⟨er, rfl, her⟩, hg3⟩
  have T3 := TabE.later T1 hg3
  have HG3 := Lib.hid hg3
  have HER : Hid (errOk er) := Lib.hid (her.elim .inl fun h => .inr h.1)
  clear hg3 her
  go_wp2_with fail
  refine (C5.out _ T3).mono ?_
  rintro e w4 ⟨⟨er2, rfl, -⟩, hg4⟩
  have HG4 := Lib.hid (Lib.grownBy_trans HG3.out hg4)
  clear hg4 T3
  obtain ⟨fe, hfe⟩ : ∃ b, feq (Rnd.pfF m p) (Rnd.pfF (m + 1) p) = b := ⟨_, rfl⟩
  rw [hfe] at hF
  unfold feq at hfe
  obtain ⟨f1, hf1⟩ : ∃ x, Rnd.pfF m p = x := ⟨_, rfl⟩
  obtain ⟨f2, hf2⟩ : ∃ x, Rnd.pfF (m + 1) p = x := ⟨_, rfl⟩
  rw [hf1] at hF
  rw [hf1, hf2] at hfe
  rw [hf1, hf2]
  clear hf1 hf2
  cases fe
  · have hF2 : Hid (longF m p V D = (slowB V D).1) := Lib.hid (by rw [hF.out]; rfl)
    clear hF
    go_wp2_with fail
    have hDB : DB (w4.alloc (.cells Tryd.zeroCells114 114)) w4.heap.size (fun _ => 0) 0 0 false := by
      have := heap_alloc_new w4 (.cells Tryd.zeroCells114 114)
      unfold DB
      rw [zero114]
      exact this
    have hgb := @gb_new _ w4 (.cells Tryd.zeroCells114 114) HG4.out
    have HGB := Lib.hid hgb
    have hle := HG4.out.size
    have HLE := Lib.hid hle
    clear hgb hle
    generalize w4.alloc (.cells Tryd.zeroCells114 114) = W at hDB HGB ⊢
    generalize w4.heap.size = g at hDB HGB HLE ⊢
    refine (CS.out g W hDB).mono ?_
    rintro e w5 ⟨rfl, ⟨nd, hD5⟩, hg5⟩
    have hkept : Kept _ w5 g := fun k hk hkg => (HGB.out w5 hg5).block k hk (by simp)
    have hS5 := SlX.at X hkept HLE.out
    have HC := Lib.hid (fbits_any g V D nd w5 hS5 HB.out (by have := HP.out; omega) hD5)
    have HG5 := Lib.hid hg5
    clear hDB hg5 hkept hS5 hD5
    go_wp2_with fail
    refine HC.out.mono ?_
    rintro e w6 ⟨rfl, hg6⟩
    have HG6 := Lib.hid (HGB.out w6 (Lib.grownBy_trans HG5.out hg6))
    clear hg6
    obtain ⟨bits, hbits⟩ : ∃ x, (slowB V D).1 = x := ⟨_, rfl⟩
    obtain ⟨ov, hov⟩ : ∃ x, (slowB V D).2 = x := ⟨_, rfl⟩
    rw [hbits] at hF2 ⊢
    rw [hov]
    clear hbits hov
    cases ov
    · go_wp2
      go_ret3
      exact ⟨_, by rw [hF2.out]; rfl, .inl rfl, HG6.out⟩
    · go_wp2
      go_ret3
      exact ⟨_, by rw [hF2.out]; rfl, .inr rfl, HG6.out⟩
  · have hF2 : Hid (longF m p V D = f1) := Lib.hid (by rw [hF.out]; rfl)
    clear hF
    go_wp2_with fail
    go_ret3
    exact ⟨er, by rw [hF2.out]; rfl, HER.out, HG4.out⟩

/-- the float of a number's text -/
def numF (s : ByteArray) (q : Nat) (ex : Int) : Nat := gF (fV s q) (fD s q ex)
theorem atof_any (s : ByteArray) (q : Nat) (ex : Int) (w : World) (T : FlE w) (X : SlX w) (hs : s.size ≤ 100) (hq : q ≤ s.size) (hq0 : 0 < q) (hM : MOk s q) (hE : EOk s q ex) :
    Calls Tryd.prog 52 #[.string s] w (AfPost s (numF s q ex) w) := by
  unfold numF
  cases ht : (mst s q).tr
  · rw [← gF_short (by omega) hM ht]
    exact atof_short s q ex w T hs hq hq0 hM hE ht
  · rw [← (gF_long (ex := ex) (by omega) hM ht).1]
    exact atof_long s q ex w T X hs hq hq0 hM hE ht
end Go.Proofs.YtblphppdfiipfaaDoor
