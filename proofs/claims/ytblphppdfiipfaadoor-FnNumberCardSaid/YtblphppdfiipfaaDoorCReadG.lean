/- readFloat at every text of a number. Conditions: none. -/
import Derived.Test.YtblphppdfiipfaaDoorCReadA
import Derived.Test.YtblphppdfiipfaaDoorCReadB
import Derived.Test.YtblphppdfiipfaaDoorCReadC
import Derived.Test.YtblphppdfiipfaaDoorCReadE
import Derived.Test.YtblphppdfiipfaaDoorCReadD
import Derived.Test.YtblphppdfiipfaaDoorCReadF
namespace Go.Proofs.YtblphppdfiipfaaDoor
open Go.RowKit

theorem EOk_kinds {s : ByteArray} {q : Nat} {ex : Int} (h : EOk s q ex) : EK0 s q ex ∨ EK1 s q ex ∨ EK2 s q ex ∨ EK3 s q ex := by
  rcases h with h | ⟨h1, h2, r, sg, h3, h4, h5, h6, h7 | h7 | h7⟩
  · exact .inl h
  · exact .inr (.inl ⟨h1, h2, r, sg, h3, h4, h5, h6, h7⟩)
  · exact .inr (.inr (.inl ⟨h1, h2, r, sg, h3, h4, h5, h6, h7⟩))
  · exact .inr (.inr (.inr ⟨h1, h2, r, sg, h3, h4, h5, h6, h7⟩))

/-- readFloat at a number's text: digits and at most one point up to q, then nothing or an exponent 'ex' -/
theorem readFloat_any (s : ByteArray) (q : Nat) (ex : Int) (w : World) (hs : s.size ≤ 100) (hq : q ≤ s.size) (hq0 : 0 < q) (hM : MOk s q) (hE : EOk s q ex) :
    Calls Tryd.prog 55 #[.string s] w (RfPost s (mst s q).m (rfE (mst s q) ex) (mst s q).tr w) := by
  have h0 : 0 < s.size := by omega
  obtain ⟨c, hcc⟩ : ∃ c : Nat, s[0].toNat = c := ⟨_, rfl⟩
  have hx : decide ((2 : Int) < s.size) = false ∨ (decide ((2 : Int) < s.size) = true ∧ ((c : Int) == 48) = false) ∨
      (∃ c1 : Nat, ∃ h : 1 < s.size, s[1].toNat = c1 ∧ ((c : Int) == 48) = true ∧ decide ((2 : Int) < s.size) = true ∧ (1 : Int) < s.size ∧ (Go.bits .or .u8 (c1 : Int) 32 == 120) = false) := by
    by_cases h2 : 2 < s.size
    · right
      by_cases h48 : c = 48
      · right
        refine ⟨s[1].toNat, by omega, rfl, by simp [h48], decide_eq_true (by omega), by omega, low120 _ ?_⟩
        rw [← bt_eq (show 1 < s.size by omega)]
        by_cases hq1 : 1 < q
        · rcases hM.1 1 hq1 with h | h
          · exact .inl h
          · exact .inr (.inl h)
        · have : q = 1 := by omega
          subst this
          rcases hE with h | ⟨_, h, _⟩
          · omega
          · exact .inr (.inr h)
      · left
        exact ⟨decide_eq_true (by omega), by simp; omega⟩
    · left
      exact decide_eq_false (by omega)
  rcases EOk_kinds hE with hE | hE | hE | hE
  · rcases hx with hx | hx | hx
    · exact rf_0_0 s q ex w hs hq hq0 hM hE c h0 hcc hx
    · exact rf_1_0 s q ex w hs hq hq0 hM hE c h0 hcc hx
    · exact rf_2_0 s q ex w hs hq hq0 hM hE c h0 hcc hx
  · rcases hx with hx | hx | hx
    · exact rf_0_1 s q ex w hs hq hq0 hM hE c h0 hcc hx
    · exact rf_1_1 s q ex w hs hq hq0 hM hE c h0 hcc hx
    · exact rf_2_1 s q ex w hs hq hq0 hM hE c h0 hcc hx
  · rcases hx with hx | hx | hx
    · exact rf_0_2 s q ex w hs hq hq0 hM hE c h0 hcc hx
    · exact rf_1_2 s q ex w hs hq hq0 hM hE c h0 hcc hx
    · exact rf_2_2 s q ex w hs hq hq0 hM hE c h0 hcc hx
  · rcases hx with hx | hx | hx
    · exact rf_0_3 s q ex w hs hq hq0 hM hE c h0 hcc hx
    · exact rf_1_3 s q ex w hs hq hq0 hM hE c h0 hcc hx
    · exact rf_2_3 s q ex w hs hq hq0 hM hE c h0 hcc hx
set_option maxRecDepth 100000

/-- what atof64 reads of the program's variables -/
def FlE (w : World) : Prop := TabE w ∧ ExE w ∧ w.cell? ⟨6, 0, none⟩ = some (.bool true)

def errOk (er : Value) : Prop := er = .nilIface ∨ er = .iface 77 (.int .i64 1)

/-- the ways of atof64 that do not see the text: no digit dropped -/
def AfPost (s : ByteArray) (f : Nat) (w : World) (e : Ending) (w' : World) : Prop :=
  ∃ er, e = .returned (.tuple #[.float .f64 f, .int .i64 s.size, er]) ∧ errOk er ∧ w.grownBy w' none

set_option maxHeartbeats 4000000 in
theorem atof_short (s : ByteArray) (q : Nat) (ex : Int) (w : World) (T : FlE w) (hs : s.size ≤ 100) (hq : q ≤ s.size) (hq0 : 0 < q) (hM : MOk s q) (hE : EOk s q ex) (htr : (mst s q).tr = false) :
    Calls Tryd.prog 52 #[.string s] w (AfPost s (Rnd.fastF (mst s q).m (rfE (mst s q) ex)) w) := by
  have h0 : 0 < s.size := by omega
  have C1 := Lib.hid fun w => special_any s w h0 (by
    rcases hM.1 0 hq0 with h | h
    · exact .inl h
    · exact .inr h)
  have C2 := Lib.hid fun w => readFloat_any s q ex w hs hq hq0 hM hE
  obtain ⟨m, hm⟩ : ∃ m, (mst s q).m = m := ⟨_, rfl⟩
  obtain ⟨p, hp⟩ : ∃ p, rfE (mst s q) ex = p := ⟨_, rfl⟩
  rw [hm, hp, htr] at C2
  rw [hm, hp]
  unfold RfPost at C2
  have fb := frombits
  obtain ⟨T1, T2, c6⟩ := T
  by_cases hm0 : m = 0
  · have g1 : ((m : Int) == 0) = true := by simp [hm0]
    have hF : Hid (Rnd.fastF m p = 0) := Lib.hid (by unfold Rnd.fastF; rw [if_pos hm0])
    have HM0 := Lib.hid hm0
    clear hm0 hM hE hm hp
    go_enter Tryd.func52, Tryd.ntmps52
    go_wp2_with fail
    refine (C1.out _).mono ?_
    rintro e w1 ⟨rfl, rfl⟩
    go_wp2_with fail
    refine (C2.out _).mono ?_
    rintro e w1 ⟨rfl, rfl⟩
    go_wp2_with (go_at_call 63; refine (bool2u_any _ _).mono ?_; rintro e w1 ⟨rfl, rfl⟩)
    go_ret3
    exact ⟨_, by rw [hF.out]; rfl, .inl rfl, World.grownBy.refl _ _⟩
  · have g1 : ((m : Int) == 0) = false := by simp [hm0]
    have hm64 : m < 2 ^ 64 := by
      have hB := mst_b s q hM.1
      have b1 : (mst s q).m < 10 ^ (mst s q).k := hB.1
      have b2 : 10 ^ (mst s q).k ≤ 10 ^ 19 := Nat.pow_le_pow_right (by omega) hB.2.1
      omega
    by_cases hp1 : 310 < p
    · have gp : decide (p > 310) = true := decide_eq_true hp1
      have hF : Hid (Rnd.fastF m p = Rnd.infR) := Lib.hid (by unfold Rnd.fastF; rw [if_neg hm0, if_pos hp1])
      clear hM hE hm hp hm0
      go_enter Tryd.func52, Tryd.ntmps52
      go_wp2_with fail
      refine (C1.out _).mono ?_
      rintro e w1 ⟨rfl, rfl⟩
      go_wp2_with fail
      refine (C2.out _).mono ?_
      rintro e w1 ⟨rfl, rfl⟩
      go_wp2_with (go_at_call 63; refine (bool2u_any _ _).mono ?_; rintro e w1 ⟨rfl, rfl⟩)
      go_ret3
      exact ⟨_, by rw [hF.out]; rfl, .inr rfl, World.grownBy.refl _ _⟩
    · have gp : decide (p > 310) = false := decide_eq_false hp1
      by_cases hp2 : p < -345
      · have gp2 : decide (p < -345) = true := decide_eq_true hp2
        have hF : Hid (Rnd.fastF m p = 0) := Lib.hid (by unfold Rnd.fastF; rw [if_neg hm0, if_neg hp1, if_pos hp2])
        clear hM hE hm hp hm0
        go_enter Tryd.func52, Tryd.ntmps52
        go_wp2_with fail
        refine (C1.out _).mono ?_
        rintro e w1 ⟨rfl, rfl⟩
        go_wp2_with fail
        refine (C2.out _).mono ?_
        rintro e w1 ⟨rfl, rfl⟩
        go_wp2_with (go_at_call 63; refine (bool2u_any _ _).mono ?_; rintro e w1 ⟨rfl, rfl⟩)
        go_ret3
        exact ⟨_, by rw [hF.out]; rfl, .inl rfl, World.grownBy.refl _ _⟩
      · have gp2 : decide (p < -345) = false := decide_eq_false hp2
        have C3 := Lib.hid fun w (T : ExE w) => ex_any m p w T hm0 hm64 (by omega) (by omega)
        have C4 := Lib.hid fun w (T : TabE w) => parse_any m p w T hm0 hm64 (by omega) (by omega)
        have hF : Hid (Rnd.fastF m p = (Rnd.exF m p).getD (Rnd.pfF m p)) := Lib.hid (by unfold Rnd.fastF; rw [if_neg hm0, if_neg hp1, if_neg hp2]; cases Rnd.exF m p <;> rfl)
        clear hM hE hm hp hm0
        go_enter Tryd.func52, Tryd.ntmps52
        go_wp2_with fail
        refine (C1.out _).mono ?_
        rintro e w1 ⟨rfl, rfl⟩
        go_wp2_with fail
        refine (C2.out _).mono ?_
        rintro e w1 ⟨rfl, rfl⟩
        go_wp2_with (go_at_call 63; refine (bool2u_any _ _).mono ?_; rintro e w1 ⟨rfl, rfl⟩)
        refine (C3.out _ T2).mono ?_
        rintro e w2 ⟨f, ok, rfl, hf, rfl⟩
        unfold exPostF at hf
        cases hx : Rnd.exF m p with
        | some r =>
          rw [hx] at hf hF
          obtain ⟨rfl, rfl⟩ := hf
          go_wp2
          go_ret3
          exact ⟨_, by rw [hF.out]; rfl, .inl rfl, World.grownBy.refl _ _⟩
        | none =>
          rw [hx] at hf hF
          have hf : ok = false := hf
          subst hf
          go_wp2_with fail
          refine (C4.out _ T1).mono ?_
          rintro e w3 ⟨⟨er, rfl, her⟩, hg⟩
          go_wp2
          go_ret3
          refine ⟨er, by rw [hF.out]; rfl, ?_, hg⟩
          rcases her with h | h
          · exact .inl h
          · exact .inr h.1
end Go.Proofs.YtblphppdfiipfaaDoor
