/- strconv.ParseFloat gives the plain value of a text. Conditions: none. -/
import Derived.Test.YtblphppdfiipfaaDoorCAtof
import Derived.Test.YtblphppdfiipfaaDoorCPu
namespace Go.Proofs.YtblphppdfiipfaaDoor
open Go.RowKit
set_option maxRecDepth 100000

def ifOk (er : Value) : Prop := er = .nilIface ∨ ∃ t x, er = .iface t x
/-- the errors' variables -/
def ErE (w : World) : Prop := ∃ e3 e4, w.cell? ⟨3, 0, none⟩ = some e3 ∧ w.cell? ⟨4, 0, none⟩ = some e4 ∧ ifOk e3 ∧ ifOk e4
theorem ErE.later {w w' : World} (h : ErE w) (hg : w.grownBy w' none) : ErE w' := by
  obtain ⟨e3, e4, a, b, c, d⟩ := h
  exact ⟨e3, e4, gbn_cell hg a, gbn_cell hg b, c, d⟩

def PfPost3 (s : ByteArray) (f : Nat) (w : World) (e : Ending) (w' : World) : Prop := ∃ er, e = .returned (.tuple #[.float .f64 f, .int .i64 s.size, er]) ∧ errOk er ∧ w.grownBy w' none
set_option maxHeartbeats 1000000 in
theorem pfp_any (s : ByteArray) (f : Nat) (w : World) (h : Calls Tryd.prog 52 #[.string s] w (AfPost s f w)) : Calls Tryd.prog 47 #[.string s, .int .i64 64] w (PfPost3 s f w) := by
  have H := Lib.hid h
  clear h
  go_enter Tryd.func47, Tryd.ntmps47
  go_wp2_with fail
  refine H.out.mono ?_
  rintro e w1 ⟨er, rfl, her, hg⟩
  have HE := Lib.hid her
  have HG := Lib.hid hg
  clear her hg
  go_wp2
  go_ret3
  exact ⟨er, rfl, HE.out, HG.out⟩
def PfPost2 (f : Nat) (w : World) (e : Ending) (w' : World) : Prop := ∃ er, e = .returned (.tuple #[.float .f64 f, er]) ∧ errOk er ∧ w.grownBy w' none
set_option maxHeartbeats 1000000 in
theorem pf_any (s : ByteArray) (f : Nat) (w : World) (h : Calls Tryd.prog 52 #[.string s] w (AfPost s f w)) : Calls Tryd.prog 37 #[.string s, .int .i64 64] w (PfPost2 f w) := by
  have H := Lib.hid (pfp_any s f w h)
  clear h
  go_enter Tryd.func37, Tryd.ntmps37
  go_wp2_with fail
  refine H.out.mono ?_
  rintro e w1 ⟨er, rfl, her, hg⟩
  have HE := Lib.hid her
  have HG := Lib.hid hg
  clear her hg
  go_wp2
  go_ret2
  exact ⟨er, rfl, HE.out, HG.out⟩
def PfsPost (f : Nat) (w : World) (e : Ending) (w' : World) : Prop := ∃ er, e = .returned (.tuple #[.float .f64 f, er]) ∧ w.grownBy w' none
set_option maxHeartbeats 1000000 in
theorem pfs_any (s : ByteArray) (f : Nat) (w : World) (hs : s.size ≤ 100) (T : ErE w) (h : Calls Tryd.prog 52 #[.string s] w (AfPost s f w)) : Calls Tryd.prog 30 #[.string s, .int .i64 64] w (PfsPost f w) := by
  have H := Lib.hid (pf_any s f w h)
  have HT := Lib.hid T
  clear h T
  go_enter Tryd.func30, Tryd.ntmps30
  go_wp2_with fail
  refine H.out.mono ?_
  rintro e w1 ⟨er, rfl, her, hg⟩
  have hT := HT.out.later hg
  have HG := Lib.hid hg
  clear hg
  rcases her with rfl | rfl
  · go_wp2
    go_ret2
    exact ⟨_, rfl, HG.out⟩
  · obtain ⟨e3, e4, c3, c4, o3, o4⟩ := hT
    have HC := Lib.hid fun fn => Tryd.strconv_toError_range fn s 0 64 e4 w1 (by omega) c4 o4
    clear c3 c4 o3 o4
    go_wp2_with fail
    refine (HC.out _).mono ?_
    rintro e w2 ⟨N, rfl, -, -, hb⟩
    have HB := Lib.hid (Lib.grownBy_trans HG.out (gb_of_below hb none))
    clear hb
    go_wp2
    go_ret2
    exact ⟨_, rfl, HB.out⟩

set_option maxHeartbeats 1000000 in
theorem pu_any (s : ByteArray) (k n : Int) (w : World) (hs : s.size ≤ 100) (hk : k = 16 ∨ k = 8 ∨ k = 2) (hn : n = 32 ∨ n = 64) (T : ErE w) :
    Calls Tryd.prog 29 #[.string s, .int .i64 k, .int .i64 n] w (PuPost w) := by
  have H := Lib.hid (pu0_any s k n w hs hk hn)
  have HT := Lib.hid T
  clear T
  clear hk hn
  go_enter Tryd.func29, Tryd.ntmps29
  go_wp2_with fail
  refine H.out.mono ?_
  rintro e w1 ⟨v, er, rfl, hv, her, hb⟩
  have hT := HT.out.later (gb_of_below hb none)
  have HV := Lib.hid hv
  have HB := Lib.hid hb
  clear hv hb
  rcases her with rfl | rfl | rfl
  · go_wp2
    go_ret2
    exact ⟨v, _, rfl, HV.out, .inl rfl, HB.out⟩
  · obtain ⟨e3, e4, c3, c4, o3, o4⟩ := hT
    have HC := Lib.hid fun fn => Tryd.strconv_toError_range fn s k n e4 w1 (by omega) c4 o4
    clear c3 c4 o3 o4
    go_wp2_with fail
    refine (HC.out _).mono ?_
    rintro e w2 ⟨N, rfl, -, -, hb⟩
    have HB2 := Lib.hid (HB.out.trans (hb.mono HB.out.size))
    clear hb
    go_wp2
    go_ret2
    exact ⟨v, _, rfl, HV.out, .inr ⟨_, _, rfl⟩, HB2.out⟩
  · obtain ⟨e3, e4, c3, c4, o3, o4⟩ := hT
    have HC := Lib.hid fun fn => Tryd.strconv_toError_syntax fn s k n e3 w1 (by omega) c3 o3
    clear c3 c4 o3 o4
    go_wp2_with fail
    refine (HC.out _).mono ?_
    rintro e w2 ⟨N, rfl, -, -, hb⟩
    have HB2 := Lib.hid (HB.out.trans (hb.mono HB.out.size))
    clear hb
    go_wp2
    go_ret2
    exact ⟨v, _, rfl, HV.out, .inr ⟨_, _, rfl⟩, HB2.out⟩
end Go.Proofs.YtblphppdfiipfaaDoor
