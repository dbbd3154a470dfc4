/- A decimal is set from a text. Conditions: none. -/
import Derived.Test.YtblphppdfiipfaaDoorCDecM
import Derived.Test.YtblphppdfiipfaaDoorCVal
namespace Go.Proofs.YtblphppdfiipfaaDoor
open Go.RowKit
open Dc
set_option maxRecDepth 100000

def F61 (g : Nat) (s : ByteArray) (i : Nat) (dot dig : Bool) : (Nat → Value) → Act := FG 224 [(0, .pointer (some ⟨g, 0, none⟩)), (1, .string s), (4, .bool false), (5, .int .i64 i), (6, .bool dot), (7, .bool dig)]
theorem F61_lit (g : Nat) (s : ByteArray) (i : Nat) (dot dig : Bool) (u : Nat → Value) : F61 g  s  i  dot dig u = { tmps := #[.pointer (some ⟨g, 0, none⟩), .string s, u 2, u 3, .bool false, .int .i64 i, .bool dot, .bool dig, u 8, u 9, u 10, u 11, u 12, u 13, u 14, u 15, u 16, u 17, u 18, u 19, u 20, u 21, u 22, u 23, u 24, u 25, u 26, u 27, u 28, u 29, u 30, u 31, u 32, u 33, u 34, u 35, u 36, u 37, u 38, u 39, u 40, u 41, u 42, u 43, u 44, u 45, u 46, u 47, u 48, u 49, u 50, u 51, u 52, u 53, u 54, u 55, u 56, u 57, u 58, u 59, u 60, u 61, u 62, u 63, u 64, u 65, u 66, u 67, u 68, u 69, u 70, u 71, u 72, u 73, u 74, u 75, u 76, u 77, u 78, u 79, u 80, u 81, u 82, u 83, u 84, u 85, u 86, u 87, u 88, u 89, u 90, u 91, u 92, u 93, u 94, u 95, u 96, u 97, u 98, u 99, u 100, u 101, u 102, u 103, u 104, u 105, u 106, u 107, u 108, u 109, u 110, u 111, u 112, u 113, u 114, u 115, u 116, u 117, u 118, u 119, u 120, u 121, u 122, u 123, u 124, u 125, u 126, u 127, u 128, u 129, u 130, u 131, u 132, u 133, u 134, u 135, u 136, u 137, u 138, u 139, u 140, u 141, u 142, u 143, u 144, u 145, u 146, u 147, u 148, u 149, u 150, u 151, u 152, u 153, u 154, u 155, u 156, u 157, u 158, u 159, u 160, u 161, u 162, u 163, u 164, u 165, u 166, u 167, u 168, u 169, u 170, u 171, u 172, u 173, u 174, u 175, u 176, u 177, u 178, u 179, u 180, u 181, u 182, u 183, u 184, u 185, u 186, u 187, u 188, u 189, u 190, u 191, u 192, u 193, u 194, u 195, u 196, u 197, u 198, u 199, u 200, u 201, u 202, u 203, u 204, u 205, u 206, u 207, u 208, u 209, u 210, u 211, u 212, u 213, u 214, u 215, u 216, u 217, u 218, u 219, u 220, u 221, u 222, u 223], defers := [] } := by kernel_rfl
theorem F61_at (g : Nat) (s : ByteArray) (i : Nat) (dot dig : Bool) {L : List Value} (hl : L.length = 224) (hn : NmOk L [(0, .pointer (some ⟨g, 0, none⟩)), (1, .string s), (4, .bool false), (5, .int .i64 i), (6, .bool dot), (7, .bool dig)]) : (F61 g  s  i  dot dig fun k => (Act.mk L.toArray []).tmps.getD k undef) = { tmps := L.toArray, defers := [] } := FG_at hl hn
def F61e (g : Nat) (s : ByteArray) (i : Nat) (sg : Int) (e : Nat) : (Nat → Value) → Act := FG 224 [(0, .pointer (some ⟨g, 0, none⟩)), (1, .string s), (4, .bool false), (5, .int .i64 i), (8, .int .i64 sg), (9, .int .i64 e)]
theorem F61e_lit (g : Nat) (s : ByteArray) (i : Nat) (sg : Int) (e : Nat) (u : Nat → Value) : F61e g  s  i  sg  e u = { tmps := #[.pointer (some ⟨g, 0, none⟩), .string s, u 2, u 3, .bool false, .int .i64 i, u 6, u 7, .int .i64 sg, .int .i64 e, u 10, u 11, u 12, u 13, u 14, u 15, u 16, u 17, u 18, u 19, u 20, u 21, u 22, u 23, u 24, u 25, u 26, u 27, u 28, u 29, u 30, u 31, u 32, u 33, u 34, u 35, u 36, u 37, u 38, u 39, u 40, u 41, u 42, u 43, u 44, u 45, u 46, u 47, u 48, u 49, u 50, u 51, u 52, u 53, u 54, u 55, u 56, u 57, u 58, u 59, u 60, u 61, u 62, u 63, u 64, u 65, u 66, u 67, u 68, u 69, u 70, u 71, u 72, u 73, u 74, u 75, u 76, u 77, u 78, u 79, u 80, u 81, u 82, u 83, u 84, u 85, u 86, u 87, u 88, u 89, u 90, u 91, u 92, u 93, u 94, u 95, u 96, u 97, u 98, u 99, u 100, u 101, u 102, u 103, u 104, u 105, u 106, u 107, u 108, u 109, u 110, u 111, u 112, u 113, u 114, u 115, u 116, u 117, u 118, u 119, u 120, u 121, u 122, u 123, u 124, u 125, u 126, u 127, u 128, u 129, u 130, u 131, u 132, u 133, u 134, u 135, u 136, u 137, u 138, u 139, u 140, u 141, u 142, u 143, u 144, u 145, u 146, u 147, u 148, u 149, u 150, u 151, u 152, u 153, u 154, u 155, u 156, u 157, u 158, u 159, u 160, u 161, u 162, u 163, u 164, u 165, u 166, u 167, u 168, u 169, u 170, u 171, u 172, u 173, u 174, u 175, u 176, u 177, u 178, u 179, u 180, u 181, u 182, u 183, u 184, u 185, u 186, u 187, u 188, u 189, u 190, u 191, u 192, u 193, u 194, u 195, u 196, u 197, u 198, u 199, u 200, u 201, u 202, u 203, u 204, u 205, u 206, u 207, u 208, u 209, u 210, u 211, u 212, u 213, u 214, u 215, u 216, u 217, u 218, u 219, u 220, u 221, u 222, u 223], defers := [] } := by kernel_rfl
theorem F61e_at (g : Nat) (s : ByteArray) (i : Nat) (sg : Int) (e : Nat) {L : List Value} (hl : L.length = 224) (hn : NmOk L [(0, .pointer (some ⟨g, 0, none⟩)), (1, .string s), (4, .bool false), (5, .int .i64 i), (8, .int .i64 sg), (9, .int .i64 e)]) : (F61e g  s  i  sg  e fun k => (Act.mk L.toArray []).tmps.getD k undef) = { tmps := L.toArray, defers := [] } := FG_at hl hn

theorem DB.setNeg {w : World} {g : Nat} {d : Nat → Nat} {nd : Nat} {dp : Int} {tr : Bool} (h : DB w g d nd dp tr) : DB (w.setCell ⟨g, 802, none⟩ (.bool false)) g d nd dp tr := by
  unfold DB
  rw [h.setAt]
  refine congrArg (fun C => some (Obj.cells C 114 (0, 0))) ?_
  have hs := dc_size d nd dp tr
  refine dc_ext (by simp [hs]) (dc_size _ _ _ _) (fun j hj => ?_) ?_ ?_ ?_ ?_
  · rw [set_get _ _ _ _ (by omega), dc_get hj, if_neg (by omega)]
  · rw [set_get _ _ _ _ (by omega), if_neg (by omega)]
  · rw [set_get _ _ _ _ (by omega), if_neg (by omega)]
  · rw [set_get _ _ _ _ (by omega), if_pos rfl, dc_e2]
  · rw [set_get _ _ _ _ (by omega), if_neg (by omega)]

theorem upd_dig {dc : Nat → Nat} {F nd c : Nat} (hc : 48 ≤ c ∧ c ≤ 57) (h : ∀ j, j < nd → dc j = 48 + F / 10 ^ (nd - 1 - j) % 10) : ∀ j, j < nd + 1 → upd dc nd c j = 48 + (F * 10 + (c - 48)) / 10 ^ (nd + 1 - 1 - j) % 10 := by
  intro j hj
  rw [dig_more _ _ _ _ (by omega) hj]
  unfold upd
  by_cases e : j = nd
  · rw [if_pos e, if_pos e]; omega
  · rw [if_neg e, if_neg e]; exact h j (by omega)
def SetPost (s : ByteArray) (q : Nat) (ex : Int) (g : Nat) (w : World) (e : Ending) (w' : World) : Prop :=
  e = .returned (.bool true) ∧ (∃ nd, Dst w' g (fV s q) ((if (mst s q).dot then (mst s q).dp else (mst s q).nd) + ex) false nd) ∧ w.grownBy w' (some g)

def SetP (fv : Nat) (D : Int) (g : Nat) (w : World) (e : Ending) (w' : World) : Prop := e = .returned (.bool true) ∧ (∃ nd, Dst w' g fv D false nd) ∧ w.grownBy w' (some g)
def SetRel (s : ByteArray) (q : Nat) (g : Nat) (w : World) (n i : Nat) (wr : World) : Prop :=
  n = q - i ∧ i ≤ q ∧ (∃ dc, DB wr g dc (mst s i).nd (mst s i).dp false ∧ ∀ j, j < (mst s i).nd → dc j = 48 + fst s i / 10 ^ ((mst s i).nd - 1 - j) % 10) ∧ w.grownBy wr (some g)

theorem EOk_kinds2 {s : ByteArray} {q : Nat} {ex : Int} (h : EOk s q ex) : EK0 s q ex ∨ EK1 s q ex ∨ EK2 s q ex ∨ EK3 s q ex := by
  rcases h with h | ⟨h1, h2, r, sg, h3, h4, h5, h6, h7 | h7 | h7⟩
  · exact .inl h
  · exact .inr (.inl ⟨h1, h2, r, sg, h3, h4, h5, h6, h7⟩)
  · exact .inr (.inr (.inl ⟨h1, h2, r, sg, h3, h4, h5, h6, h7⟩))
  · exact .inr (.inr (.inr ⟨h1, h2, r, sg, h3, h4, h5, h6, h7⟩))
set_option maxHeartbeats 8000000 in
theorem set_any (s : ByteArray) (q : Nat) (ex : Int) (g : Nat) (w : World) (hs : s.size ≤ 100) (hq : q ≤ s.size) (hq0 : 0 < q) (hM : MOk s q) (hE : EOk s q ex) (hD : DB w g (fun _ => 0) 0 0 false) :
    Calls Tryd.prog 61 #[.pointer (some ⟨g, 0, none⟩), .string s] w (SetPost s q ex g w) := by
  have h0 : 0 < s.size := by omega
  obtain ⟨c, hcc⟩ : ∃ c : Nat, s[0].toNat = c := ⟨_, rfl⟩
  have hc := hM.1 0 hq0
  rw [bt_eq h0, hcc] at hc
  have e1 : ((c : Int) == 43) = false := by simp; omega
  have e2 : ((c : Int) == 45) = false := by simp; omega
  have hge : decide ((0 : Int) ≥ s.size) = false := decide_eq_false (by omega)
  have hem : decide (s = ByteArray.empty) = false := decide_eq_false (by rintro rfl; exact absurd h0 (by decide))
  have hM := Lib.hid hM
  have hE := Lib.hid hE
  have hem2 : (s = ByteArray.empty) = False := by simpa using hem
  clear hc
  have f2 := hD.free 802
  have f3 := hD.free 803
  obtain ⟨_, _, c2, c3⟩ := hD.cells
  have HD := Lib.hid hD; clear hD
  go_enter Tryd.func61, Tryd.ntmps61
  go_wp2
  have hD2 := DB.setTr (DB.setNeg HD.out) false
  have hG2 : w.grownBy ((w.setCell ⟨g, 802, none⟩ (.bool false)).setCell ⟨g, 803, none⟩ (.bool false)) (some g) := gb_set (gb_set (World.grownBy.refl _ _) _ _) _ _
  generalize (w.setCell ⟨g, 802, none⟩ (.bool false)).setCell ⟨g, 803, none⟩ (.bool false) = W at hD2 hG2 ⊢
  clear f2 f3 c2 c3 e1 e2 hge hem hem2
  rename_i KK hKK
  have HD2 := Lib.hid hD2; clear hD2
  have HG2 := Lib.hid hG2; clear hG2
  have HRest : ∀ (a' : Act) (w1 : World), ((∃ dc, DB w1 g dc (mst s q).nd (mst s q).dp false ∧ ∀ j, j < (mst s q).nd → dc j = 48 + fst s q / 10 ^ ((mst s q).nd - 1 - j) % 10) ∧ w.grownBy w1 (some g)) → (F61 g s q (mst s q).dot (mst s q).dig fun k => a'.tmps.getD k undef) = a' → KK a' w1 := by
    rintro a' w1 ⟨⟨dc, hB, hd⟩, hG⟩ he
    rw [← he]
    apply hKK
    clear hKK he
    generalize (fun k => a'.tmps.getD k undef) = u
    rw [F61_lit]
    have hdig := hM.out.2.2
    have hb := mst_b s q hM.out.1
    have HKD := Lib.hid (EOk_kinds2 hE.out)
    have hfl := fst_lt s q hM.out.1
    have hDR : DR (fV s q) (mst s q).nd dc := ⟨fun i hi => by unfold fV; rw [dgt_F hi (by have := hb.2.2.1; have := N8_eq; omega)]; exact hd i hi, fun i hi => by unfold fV; exact dgt_F0 hi (by have := hb.2.2.1; have := N8_eq; omega), by have := hb.2.2.1; have := N8_eq; omega⟩
    have HDR := Lib.hid hDR
    clear hDR hfl hd
    obtain ⟨_, _, hb3, hb4, hb5⟩ := hb
    obtain ⟨DF, hDF⟩ : ∃ D, (if (mst s q).dot = true then (mst s q).dp else ((mst s q).nd : Int)) + ex = D := ⟨_, rfl⟩
    rw [show SetPost s q ex g w = SetP (fV s q) DF g w from by unfold SetPost; rw [hDF]; rfl]
    obtain ⟨fv, hfv⟩ : ∃ x, fV s q = x := ⟨_, rfl⟩
    rw [hfv] at HDR ⊢
    obtain ⟨nd, hnd2⟩ : ∃ x, (mst s q).nd = x := ⟨_, rfl⟩
    obtain ⟨dp, hdp⟩ : ∃ x, (mst s q).dp = x := ⟨_, rfl⟩
    obtain ⟨dot, hdot⟩ : ∃ x, (mst s q).dot = x := ⟨_, rfl⟩
    rw [hdot, hdig]
    rw [hnd2] at hB HDR hb3
    rw [hdp] at hB hb4 hb5
    rw [hdot, hdp, hnd2] at hDF
    have HDF := Lib.hid hDF.symm
    clear hDF
    clear hdig hnd2 hdp hdot hfv hM hE
    have f1 := hB.free 801
    obtain ⟨c0, c1, _, _⟩ := hB.cells
    cases dot
    · have HBD := Lib.hid (DB.setDp hB (nd : Int))
      have HGD := Lib.hid (gb_set hG 801 (.int .i64 (nd : Int)))
      have HDP : Hid (DF = (nd : Int) + ex) := Lib.hid HDF.out
      clear hB hG HDF
      rcases HKD.out with hk | hk | hk | hk
      · obtain ⟨hk1, hk2⟩ := hk
        have HK2 := Lib.hid hk2
        clear hk2
        subst hk1
        have hltd : decide ((s.size : Int) < s.size) = false := decide_eq_false (by omega)
        go_wp2
        go_ret
        exact ⟨rfl, ⟨nd, dc, by rw [HDP.out, HK2.out, Int.add_zero]; exact HBD.out, HDR.out⟩, by exact HGD.out⟩
      · obtain ⟨hqs, hqc, r, sg, hr, hqr, hdg, hexx, hrq, hsg⟩ := hk
        have hltd : decide ((q : Int) < s.size) = true := decide_eq_true (by omega)
        obtain ⟨cq, hcq⟩ : ∃ c : Nat, s[q].toNat = c := ⟨_, rfl⟩
        rw [bt_eq hqs, hcq] at hqc
        have hlow := low101 cq hqc
        have hl2 : q + 1 < s.size := by omega
        have hq2 : decide ((q : Int) + 1 ≥ s.size) = false := decide_eq_false (by omega)
        obtain ⟨w4, w5, w3, w2, w1x⟩ := idx1 hs hl2
        have HDG := Lib.hid hdg
        obtain ⟨c1, hc1⟩ : ∃ c : Nat, s[q + 1].toNat = c := ⟨_, rfl⟩
        have hd1 := HDG.out (q + 1) (by omega) hl2
        rw [bt_eq hl2, hc1] at hd1
        have s1 : ((c1 : Int) == 43) = false := by simp; omega
        have s2 : ((c1 : Int) == 45) = false := by simp; omega
        have s3 : decide ((c1 : Int) < 48) = false := decide_eq_false (by omega)
        have s4 : decide ((c1 : Int) > 57) = false := decide_eq_false (by omega)
        subst hrq
        clear hqc hdg hd1
        have HSG : Hid (sg = 1) := Lib.hid hsg
        have HEX := Lib.hid hexx
        clear hexx hsg
        go_wp2
        rename_i KK2 hKK2
        have HR2 : ∀ (a' : Act) (w2 : World), w2 = (w1.setCell ⟨g, 801, none⟩ (.int .i64 (nd : Int))) → (F61e g s s.size sg (est s (q + 1) (s.size - (q + 1))) fun k => a'.tmps.getD k undef) = a' → KK2 a' w2 := by
          rintro a' w2 rfl he
          rw [← he]
          apply hKK2
          clear hKK2 he
          generalize (fun k => a'.tmps.getD k undef) = u2
          rw [F61e_lit]
          have hEb := est_b s (q + 1) (s.size - (q + 1)) fun j hj => (HDG.out _ (by omega) (by omega)).2
          have hX := HEX.out
          obtain ⟨E, hEE⟩ : ∃ E, est s (q + 1) (s.size - (q + 1)) = E := ⟨_, rfl⟩
          rw [hEE] at hEb hX ⊢
          have hsg := HSG.out
          obtain ⟨P, hP⟩ : ∃ P : Int, (E : Int) * sg = P := ⟨_, rfl⟩
          have hX2 : ex = P := by rw [hX, ← hP, Int.mul_comm]
          have hPb : -99999 ≤ P ∧ P ≤ 99999 := by rw [← hP, hsg]; omega
          have y1 : IntKind.i64.wrap ((E : Int) * sg) = P := by rw [hP]; exact IntWalk.i64_in _ (by omega)
          have y2 : IntKind.i64.wrap ((nd : Int) + P) = (nd : Int) + P := IntWalk.i64_in _ (by omega)
          have HX2 := Lib.hid hX2
          have f1' := HBD.out.free 801
          have c1' := HBD.out.cells.2.1
          clear hX hP hEE hsg hX2 hEb
          go_wp2
          go_ret
          exact ⟨rfl, ⟨nd, dc, by rw [HDP.out, HX2.out]; exact DB.setDp HBD.out _, HDR.out⟩, by exact gb_set HGD.out _ _⟩
        have HR2 := Lib.hid HR2
        clear hKK2
        refine wp_loop_x (fun i : Nat => F61e g s i sg (est s (q + 1) (i - (q + 1)))) (fun n i w2 => n = s.size - i ∧ (q + 1) ≤ i ∧ i ≤ s.size ∧ w2 = (w1.setCell ⟨g, 801, none⟩ (.int .i64 (nd : Int)))) (s.size - (q + 1)) (q + 1) ⟨rfl, Nat.le_refl _, by omega, rfl⟩ (by rw [HSG.out, Nat.sub_self]; exact F61e_at _ _ _ _ _ rfl ⟨rfl, rfl, rfl, rfl, rfl, rfl, trivial⟩) ?_
        rintro n i u2 w2 ⟨hn, hi1, hi2, rfl⟩ K3 hK3
        have HN := Lib.hid hn; clear hn
        have HK3 := Lib.hid hK3; clear hK3
        rw [F61e_lit]
        by_cases his : i = s.size
        · have hq1 : decide ((i : Int) < s.size) = false := decide_eq_false (by omega)
          subst his
          obtain ⟨E, hEE⟩ : ∃ E, est s (q + 1) (s.size - (q + 1)) = E := ⟨_, rfl⟩
          rw [hEE]
          have HEE := Lib.hid hEE
          clear hEE
          go_wp2
          exact HR2.out _ _ rfl (by rw [HEE.out]; exact F61e_at _ _ _ _ _ rfl ⟨rfl, rfl, rfl, rfl, rfl, rfl, trivial⟩)
        · have hlt : i < s.size := by omega
          have hltd : decide ((i : Int) < s.size) = true := decide_eq_true (by omega)
          have hc := HDG.out i hi1 hlt
          have hS : est s (q + 1) (i + 1 - (q + 1)) = if est s (q + 1) (i - (q + 1)) < 10000 then est s (q + 1) (i - (q + 1)) * 10 + (bt s i - 48) else est s (q + 1) (i - (q + 1)) := by
            rw [show i + 1 - (q + 1) = i - (q + 1) + 1 by omega, est, show (q + 1) + (i - (q + 1)) = i by omega]
          obtain ⟨cc, hcc⟩ : ∃ c : Nat, s[i].toNat = c := ⟨_, rfl⟩
          rw [bt_eq hlt, hcc] at hc hS
          obtain ⟨E, hEE⟩ : ∃ E, est s (q + 1) (i - (q + 1)) = E := ⟨_, rfl⟩
          rw [hEE] at hS ⊢
          have g95 : ((cc : Int) == 95) = false := by simp; omega
          have g48 : decide ((48 : Int) ≤ cc) = true := decide_eq_true (by omega)
          have g57 : decide ((cc : Int) ≤ 57) = true := decide_eq_true (by omega)
          clear hEE
          by_cases hE1 : E < 10000
          · rw [if_pos hE1] at hS
            have gE : decide ((E : Int) < 10000) = true := decide_eq_true (by omega)
            have HS := Lib.hid hS
            have HV : Hid ((E : Int) * 10 + (cc : Int) - 48 = ((E * 10 + (cc - 48) : Nat) : Int)) := Lib.hid (by omega)
            clear hS
            go_wp2
            rw [HV.out]
            exact HK3.out (s.size - (i + 1)) (i + 1) _ _ (by have := HN.out; omega) ⟨rfl, by omega, by omega, rfl⟩ (by
              rw [HS.out]
              exact F61e_at _ _ _ _ _ rfl ⟨rfl, rfl, rfl, rfl, rfl, rfl, trivial⟩)
          · rw [if_neg hE1] at hS
            have gE : decide ((E : Int) < 10000) = false := decide_eq_false (by omega)
            have HS := Lib.hid hS
            clear hS
            go_wp2
            exact HK3.out (s.size - (i + 1)) (i + 1) _ _ (by have := HN.out; omega) ⟨rfl, by omega, by omega, rfl⟩ (by
              rw [HS.out]
              exact F61e_at _ _ _ _ _ rfl ⟨rfl, rfl, rfl, rfl, rfl, rfl, trivial⟩)
      · obtain ⟨hqs, hqc, r, sg, hr, hqr, hdg, hexx, hrq, hsgc, hsg⟩ := hk
        have hltd : decide ((q : Int) < s.size) = true := decide_eq_true (by omega)
        obtain ⟨cq, hcq⟩ : ∃ c : Nat, s[q].toNat = c := ⟨_, rfl⟩
        rw [bt_eq hqs, hcq] at hqc
        have hlow := low101 cq hqc
        have hl2 : q + 1 < s.size := by omega
        have hq2 : decide ((q : Int) + 1 ≥ s.size) = false := decide_eq_false (by omega)
        obtain ⟨w4, w5, w3, w2, w1x⟩ := idx1 hs hl2
        have HDG := Lib.hid hdg
        obtain ⟨c1, hc1⟩ : ∃ c : Nat, s[q + 1].toNat = c := ⟨_, rfl⟩
        rw [bt_eq hl2, hc1] at hsgc
        subst hsgc
        have hl3 : q + 2 < s.size := by omega
        have hq3 : decide ((q : Int) + 1 + 1 ≥ s.size) = false := decide_eq_false (by omega)
        have hq3' : decide ((q : Int) + 2 ≥ s.size) = false := decide_eq_false (by omega)
        have x1 : IntKind.i64.wrap ((q : Int) + 1 + 1) = (q : Int) + 2 := IntWalk.i64_in _ (by omega)
        have x2 : (0 : Int) ≤ (q : Int) + 2 := by omega
        have x3 : ((q : Int) + 2).toNat = q + 2 := by omega
        have x4 : (q : Int) + 2 < s.size := by omega
        obtain ⟨c2, hc2⟩ : ∃ c : Nat, s[q + 2].toNat = c := ⟨_, rfl⟩
        have hd1 := HDG.out (q + 2) (by omega) hl3
        rw [bt_eq hl3, hc2] at hd1
        have s3 : decide ((c2 : Int) < 48) = false := decide_eq_false (by omega)
        have s4 : decide ((c2 : Int) > 57) = false := decide_eq_false (by omega)
        subst hrq
        clear hqc hdg hd1
        have HSG : Hid (sg = 1) := Lib.hid hsg
        have HEX := Lib.hid hexx
        clear hexx hsg
        go_wp2
        rename_i KK2 hKK2
        have HR2 : ∀ (a' : Act) (w2 : World), w2 = (w1.setCell ⟨g, 801, none⟩ (.int .i64 (nd : Int))) → (F61e g s s.size sg (est s (q + 2) (s.size - (q + 2))) fun k => a'.tmps.getD k undef) = a' → KK2 a' w2 := by
          rintro a' w2 rfl he
          rw [← he]
          apply hKK2
          clear hKK2 he
          generalize (fun k => a'.tmps.getD k undef) = u2
          rw [F61e_lit]
          have hEb := est_b s (q + 2) (s.size - (q + 2)) fun j hj => (HDG.out _ (by omega) (by omega)).2
          have hX := HEX.out
          obtain ⟨E, hEE⟩ : ∃ E, est s (q + 2) (s.size - (q + 2)) = E := ⟨_, rfl⟩
          rw [hEE] at hEb hX ⊢
          have hsg := HSG.out
          obtain ⟨P, hP⟩ : ∃ P : Int, (E : Int) * sg = P := ⟨_, rfl⟩
          have hX2 : ex = P := by rw [hX, ← hP, Int.mul_comm]
          have hPb : -99999 ≤ P ∧ P ≤ 99999 := by rw [← hP, hsg]; omega
          have y1 : IntKind.i64.wrap ((E : Int) * sg) = P := by rw [hP]; exact IntWalk.i64_in _ (by omega)
          have y2 : IntKind.i64.wrap ((nd : Int) + P) = (nd : Int) + P := IntWalk.i64_in _ (by omega)
          have HX2 := Lib.hid hX2
          have f1' := HBD.out.free 801
          have c1' := HBD.out.cells.2.1
          clear hX hP hEE hsg hX2 hEb
          go_wp2
          go_ret
          exact ⟨rfl, ⟨nd, dc, by rw [HDP.out, HX2.out]; exact DB.setDp HBD.out _, HDR.out⟩, by exact gb_set HGD.out _ _⟩
        have HR2 := Lib.hid HR2
        clear hKK2
        refine wp_loop_x (fun i : Nat => F61e g s i sg (est s (q + 2) (i - (q + 2)))) (fun n i w2 => n = s.size - i ∧ (q + 2) ≤ i ∧ i ≤ s.size ∧ w2 = (w1.setCell ⟨g, 801, none⟩ (.int .i64 (nd : Int)))) (s.size - (q + 2)) (q + 2) ⟨rfl, Nat.le_refl _, by omega, rfl⟩ (by rw [HSG.out, Nat.sub_self]; exact F61e_at _ _ _ _ _ rfl ⟨rfl, rfl, rfl, rfl, rfl, rfl, trivial⟩) ?_
        rintro n i u2 w2 ⟨hn, hi1, hi2, rfl⟩ K3 hK3
        have HN := Lib.hid hn; clear hn
        have HK3 := Lib.hid hK3; clear hK3
        rw [F61e_lit]
        by_cases his : i = s.size
        · have hq1 : decide ((i : Int) < s.size) = false := decide_eq_false (by omega)
          subst his
          obtain ⟨E, hEE⟩ : ∃ E, est s (q + 2) (s.size - (q + 2)) = E := ⟨_, rfl⟩
          rw [hEE]
          have HEE := Lib.hid hEE
          clear hEE
          go_wp2
          exact HR2.out _ _ rfl (by rw [HEE.out]; exact F61e_at _ _ _ _ _ rfl ⟨rfl, rfl, rfl, rfl, rfl, rfl, trivial⟩)
        · have hlt : i < s.size := by omega
          have hltd : decide ((i : Int) < s.size) = true := decide_eq_true (by omega)
          have hc := HDG.out i hi1 hlt
          have hS : est s (q + 2) (i + 1 - (q + 2)) = if est s (q + 2) (i - (q + 2)) < 10000 then est s (q + 2) (i - (q + 2)) * 10 + (bt s i - 48) else est s (q + 2) (i - (q + 2)) := by
            rw [show i + 1 - (q + 2) = i - (q + 2) + 1 by omega, est, show (q + 2) + (i - (q + 2)) = i by omega]
          obtain ⟨cc, hcc⟩ : ∃ c : Nat, s[i].toNat = c := ⟨_, rfl⟩
          rw [bt_eq hlt, hcc] at hc hS
          obtain ⟨E, hEE⟩ : ∃ E, est s (q + 2) (i - (q + 2)) = E := ⟨_, rfl⟩
          rw [hEE] at hS ⊢
          have g95 : ((cc : Int) == 95) = false := by simp; omega
          have g48 : decide ((48 : Int) ≤ cc) = true := decide_eq_true (by omega)
          have g57 : decide ((cc : Int) ≤ 57) = true := decide_eq_true (by omega)
          clear hEE
          by_cases hE1 : E < 10000
          · rw [if_pos hE1] at hS
            have gE : decide ((E : Int) < 10000) = true := decide_eq_true (by omega)
            have HS := Lib.hid hS
            have HV : Hid ((E : Int) * 10 + (cc : Int) - 48 = ((E * 10 + (cc - 48) : Nat) : Int)) := Lib.hid (by omega)
            clear hS
            go_wp2
            rw [HV.out]
            exact HK3.out (s.size - (i + 1)) (i + 1) _ _ (by have := HN.out; omega) ⟨rfl, by omega, by omega, rfl⟩ (by
              rw [HS.out]
              exact F61e_at _ _ _ _ _ rfl ⟨rfl, rfl, rfl, rfl, rfl, rfl, trivial⟩)
          · rw [if_neg hE1] at hS
            have gE : decide ((E : Int) < 10000) = false := decide_eq_false (by omega)
            have HS := Lib.hid hS
            clear hS
            go_wp2
            exact HK3.out (s.size - (i + 1)) (i + 1) _ _ (by have := HN.out; omega) ⟨rfl, by omega, by omega, rfl⟩ (by
              rw [HS.out]
              exact F61e_at _ _ _ _ _ rfl ⟨rfl, rfl, rfl, rfl, rfl, rfl, trivial⟩)
      · obtain ⟨hqs, hqc, r, sg, hr, hqr, hdg, hexx, hrq, hsgc, hsg⟩ := hk
        have hltd : decide ((q : Int) < s.size) = true := decide_eq_true (by omega)
        obtain ⟨cq, hcq⟩ : ∃ c : Nat, s[q].toNat = c := ⟨_, rfl⟩
        rw [bt_eq hqs, hcq] at hqc
        have hlow := low101 cq hqc
        have hl2 : q + 1 < s.size := by omega
        have hq2 : decide ((q : Int) + 1 ≥ s.size) = false := decide_eq_false (by omega)
        obtain ⟨w4, w5, w3, w2, w1x⟩ := idx1 hs hl2
        have HDG := Lib.hid hdg
        obtain ⟨c1, hc1⟩ : ∃ c : Nat, s[q + 1].toNat = c := ⟨_, rfl⟩
        rw [bt_eq hl2, hc1] at hsgc
        subst hsgc
        have hl3 : q + 2 < s.size := by omega
        have hq3 : decide ((q : Int) + 1 + 1 ≥ s.size) = false := decide_eq_false (by omega)
        have hq3' : decide ((q : Int) + 2 ≥ s.size) = false := decide_eq_false (by omega)
        have x1 : IntKind.i64.wrap ((q : Int) + 1 + 1) = (q : Int) + 2 := IntWalk.i64_in _ (by omega)
        have x2 : (0 : Int) ≤ (q : Int) + 2 := by omega
        have x3 : ((q : Int) + 2).toNat = q + 2 := by omega
        have x4 : (q : Int) + 2 < s.size := by omega
        obtain ⟨c2, hc2⟩ : ∃ c : Nat, s[q + 2].toNat = c := ⟨_, rfl⟩
        have hd1 := HDG.out (q + 2) (by omega) hl3
        rw [bt_eq hl3, hc2] at hd1
        have s3 : decide ((c2 : Int) < 48) = false := decide_eq_false (by omega)
        have s4 : decide ((c2 : Int) > 57) = false := decide_eq_false (by omega)
        subst hrq
        clear hqc hdg hd1
        have HSG : Hid (sg = -1) := Lib.hid hsg
        have HEX := Lib.hid hexx
        clear hexx hsg
        go_wp2
        rename_i KK2 hKK2
        have HR2 : ∀ (a' : Act) (w2 : World), w2 = (w1.setCell ⟨g, 801, none⟩ (.int .i64 (nd : Int))) → (F61e g s s.size sg (est s (q + 2) (s.size - (q + 2))) fun k => a'.tmps.getD k undef) = a' → KK2 a' w2 := by
          rintro a' w2 rfl he
          rw [← he]
          apply hKK2
          clear hKK2 he
          generalize (fun k => a'.tmps.getD k undef) = u2
          rw [F61e_lit]
          have hEb := est_b s (q + 2) (s.size - (q + 2)) fun j hj => (HDG.out _ (by omega) (by omega)).2
          have hX := HEX.out
          obtain ⟨E, hEE⟩ : ∃ E, est s (q + 2) (s.size - (q + 2)) = E := ⟨_, rfl⟩
          rw [hEE] at hEb hX ⊢
          have hsg := HSG.out
          obtain ⟨P, hP⟩ : ∃ P : Int, (E : Int) * sg = P := ⟨_, rfl⟩
          have hX2 : ex = P := by rw [hX, ← hP, Int.mul_comm]
          have hPb : -99999 ≤ P ∧ P ≤ 99999 := by rw [← hP, hsg]; omega
          have y1 : IntKind.i64.wrap ((E : Int) * sg) = P := by rw [hP]; exact IntWalk.i64_in _ (by omega)
          have y2 : IntKind.i64.wrap ((nd : Int) + P) = (nd : Int) + P := IntWalk.i64_in _ (by omega)
          have HX2 := Lib.hid hX2
          have f1' := HBD.out.free 801
          have c1' := HBD.out.cells.2.1
          clear hX hP hEE hsg hX2 hEb
          go_wp2
          go_ret
          exact ⟨rfl, ⟨nd, dc, by rw [HDP.out, HX2.out]; exact DB.setDp HBD.out _, HDR.out⟩, by exact gb_set HGD.out _ _⟩
        have HR2 := Lib.hid HR2
        clear hKK2
        refine wp_loop_x (fun i : Nat => F61e g s i sg (est s (q + 2) (i - (q + 2)))) (fun n i w2 => n = s.size - i ∧ (q + 2) ≤ i ∧ i ≤ s.size ∧ w2 = (w1.setCell ⟨g, 801, none⟩ (.int .i64 (nd : Int)))) (s.size - (q + 2)) (q + 2) ⟨rfl, Nat.le_refl _, by omega, rfl⟩ (by rw [HSG.out, Nat.sub_self]; exact F61e_at _ _ _ _ _ rfl ⟨rfl, rfl, rfl, rfl, rfl, rfl, trivial⟩) ?_
        rintro n i u2 w2 ⟨hn, hi1, hi2, rfl⟩ K3 hK3
        have HN := Lib.hid hn; clear hn
        have HK3 := Lib.hid hK3; clear hK3
        rw [F61e_lit]
        by_cases his : i = s.size
        · have hq1 : decide ((i : Int) < s.size) = false := decide_eq_false (by omega)
          subst his
          obtain ⟨E, hEE⟩ : ∃ E, est s (q + 2) (s.size - (q + 2)) = E := ⟨_, rfl⟩
          rw [hEE]
          have HEE := Lib.hid hEE
          clear hEE
          go_wp2
          exact HR2.out _ _ rfl (by rw [HEE.out]; exact F61e_at _ _ _ _ _ rfl ⟨rfl, rfl, rfl, rfl, rfl, rfl, trivial⟩)
        · have hlt : i < s.size := by omega
          have hltd : decide ((i : Int) < s.size) = true := decide_eq_true (by omega)
          have hc := HDG.out i hi1 hlt
          have hS : est s (q + 2) (i + 1 - (q + 2)) = if est s (q + 2) (i - (q + 2)) < 10000 then est s (q + 2) (i - (q + 2)) * 10 + (bt s i - 48) else est s (q + 2) (i - (q + 2)) := by
            rw [show i + 1 - (q + 2) = i - (q + 2) + 1 by omega, est, show (q + 2) + (i - (q + 2)) = i by omega]
          obtain ⟨cc, hcc⟩ : ∃ c : Nat, s[i].toNat = c := ⟨_, rfl⟩
          rw [bt_eq hlt, hcc] at hc hS
          obtain ⟨E, hEE⟩ : ∃ E, est s (q + 2) (i - (q + 2)) = E := ⟨_, rfl⟩
          rw [hEE] at hS ⊢
          have g95 : ((cc : Int) == 95) = false := by simp; omega
          have g48 : decide ((48 : Int) ≤ cc) = true := decide_eq_true (by omega)
          have g57 : decide ((cc : Int) ≤ 57) = true := decide_eq_true (by omega)
          clear hEE
          by_cases hE1 : E < 10000
          · rw [if_pos hE1] at hS
            have gE : decide ((E : Int) < 10000) = true := decide_eq_true (by omega)
            have HS := Lib.hid hS
            have HV : Hid ((E : Int) * 10 + (cc : Int) - 48 = ((E * 10 + (cc - 48) : Nat) : Int)) := Lib.hid (by omega)
            clear hS
            go_wp2
            rw [HV.out]
            exact HK3.out (s.size - (i + 1)) (i + 1) _ _ (by have := HN.out; omega) ⟨rfl, by omega, by omega, rfl⟩ (by
              rw [HS.out]
              exact F61e_at _ _ _ _ _ rfl ⟨rfl, rfl, rfl, rfl, rfl, rfl, trivial⟩)
          · rw [if_neg hE1] at hS
            have gE : decide ((E : Int) < 10000) = false := decide_eq_false (by omega)
            have HS := Lib.hid hS
            clear hS
            go_wp2
            exact HK3.out (s.size - (i + 1)) (i + 1) _ _ (by have := HN.out; omega) ⟨rfl, by omega, by omega, rfl⟩ (by
              rw [HS.out]
              exact F61e_at _ _ _ _ _ rfl ⟨rfl, rfl, rfl, rfl, rfl, rfl, trivial⟩)
    · have HBD := Lib.hid hB
      have HGD := Lib.hid hG
      have HDP : Hid (DF = dp + ex) := Lib.hid HDF.out
      clear hB hG HDF
      rcases HKD.out with hk | hk | hk | hk
      · obtain ⟨hk1, hk2⟩ := hk
        have HK2 := Lib.hid hk2
        clear hk2
        subst hk1
        have hltd : decide ((s.size : Int) < s.size) = false := decide_eq_false (by omega)
        go_wp2
        go_ret
        exact ⟨rfl, ⟨nd, dc, by rw [HDP.out, HK2.out, Int.add_zero]; exact HBD.out, HDR.out⟩, by exact HGD.out⟩
      · obtain ⟨hqs, hqc, r, sg, hr, hqr, hdg, hexx, hrq, hsg⟩ := hk
        have hltd : decide ((q : Int) < s.size) = true := decide_eq_true (by omega)
        obtain ⟨cq, hcq⟩ : ∃ c : Nat, s[q].toNat = c := ⟨_, rfl⟩
        rw [bt_eq hqs, hcq] at hqc
        have hlow := low101 cq hqc
        have hl2 : q + 1 < s.size := by omega
        have hq2 : decide ((q : Int) + 1 ≥ s.size) = false := decide_eq_false (by omega)
        obtain ⟨w4, w5, w3, w2, w1x⟩ := idx1 hs hl2
        have HDG := Lib.hid hdg
        obtain ⟨c1, hc1⟩ : ∃ c : Nat, s[q + 1].toNat = c := ⟨_, rfl⟩
        have hd1 := HDG.out (q + 1) (by omega) hl2
        rw [bt_eq hl2, hc1] at hd1
        have s1 : ((c1 : Int) == 43) = false := by simp; omega
        have s2 : ((c1 : Int) == 45) = false := by simp; omega
        have s3 : decide ((c1 : Int) < 48) = false := decide_eq_false (by omega)
        have s4 : decide ((c1 : Int) > 57) = false := decide_eq_false (by omega)
        subst hrq
        clear hqc hdg hd1
        have HSG : Hid (sg = 1) := Lib.hid hsg
        have HEX := Lib.hid hexx
        clear hexx hsg
        go_wp2
        rename_i KK2 hKK2
        have HR2 : ∀ (a' : Act) (w2 : World), w2 = w1 → (F61e g s s.size sg (est s (q + 1) (s.size - (q + 1))) fun k => a'.tmps.getD k undef) = a' → KK2 a' w2 := by
          rintro a' w2 rfl he
          rw [← he]
          apply hKK2
          clear hKK2 he
          generalize (fun k => a'.tmps.getD k undef) = u2
          rw [F61e_lit]
          have hEb := est_b s (q + 1) (s.size - (q + 1)) fun j hj => (HDG.out _ (by omega) (by omega)).2
          have hX := HEX.out
          obtain ⟨E, hEE⟩ : ∃ E, est s (q + 1) (s.size - (q + 1)) = E := ⟨_, rfl⟩
          rw [hEE] at hEb hX ⊢
          have hsg := HSG.out
          obtain ⟨P, hP⟩ : ∃ P : Int, (E : Int) * sg = P := ⟨_, rfl⟩
          have hX2 : ex = P := by rw [hX, ← hP, Int.mul_comm]
          have hPb : -99999 ≤ P ∧ P ≤ 99999 := by rw [← hP, hsg]; omega
          have y1 : IntKind.i64.wrap ((E : Int) * sg) = P := by rw [hP]; exact IntWalk.i64_in _ (by omega)
          have y2 : IntKind.i64.wrap (dp + P) = dp + P := IntWalk.i64_in _ (by omega)
          have HX2 := Lib.hid hX2
          have f1' := HBD.out.free 801
          have c1' := HBD.out.cells.2.1
          clear hX hP hEE hsg hX2 hEb
          go_wp2
          go_ret
          exact ⟨rfl, ⟨nd, dc, by rw [HDP.out, HX2.out]; exact DB.setDp HBD.out _, HDR.out⟩, by exact gb_set HGD.out _ _⟩
        have HR2 := Lib.hid HR2
        clear hKK2
        refine wp_loop_x (fun i : Nat => F61e g s i sg (est s (q + 1) (i - (q + 1)))) (fun n i w2 => n = s.size - i ∧ (q + 1) ≤ i ∧ i ≤ s.size ∧ w2 = w1) (s.size - (q + 1)) (q + 1) ⟨rfl, Nat.le_refl _, by omega, rfl⟩ (by rw [HSG.out, Nat.sub_self]; exact F61e_at _ _ _ _ _ rfl ⟨rfl, rfl, rfl, rfl, rfl, rfl, trivial⟩) ?_
        rintro n i u2 w2 ⟨hn, hi1, hi2, rfl⟩ K3 hK3
        have HN := Lib.hid hn; clear hn
        have HK3 := Lib.hid hK3; clear hK3
        rw [F61e_lit]
        by_cases his : i = s.size
        · have hq1 : decide ((i : Int) < s.size) = false := decide_eq_false (by omega)
          subst his
          obtain ⟨E, hEE⟩ : ∃ E, est s (q + 1) (s.size - (q + 1)) = E := ⟨_, rfl⟩
          rw [hEE]
          have HEE := Lib.hid hEE
          clear hEE
          go_wp2
          exact HR2.out _ _ rfl (by rw [HEE.out]; exact F61e_at _ _ _ _ _ rfl ⟨rfl, rfl, rfl, rfl, rfl, rfl, trivial⟩)
        · have hlt : i < s.size := by omega
          have hltd : decide ((i : Int) < s.size) = true := decide_eq_true (by omega)
          have hc := HDG.out i hi1 hlt
          have hS : est s (q + 1) (i + 1 - (q + 1)) = if est s (q + 1) (i - (q + 1)) < 10000 then est s (q + 1) (i - (q + 1)) * 10 + (bt s i - 48) else est s (q + 1) (i - (q + 1)) := by
            rw [show i + 1 - (q + 1) = i - (q + 1) + 1 by omega, est, show (q + 1) + (i - (q + 1)) = i by omega]
          obtain ⟨cc, hcc⟩ : ∃ c : Nat, s[i].toNat = c := ⟨_, rfl⟩
          rw [bt_eq hlt, hcc] at hc hS
          obtain ⟨E, hEE⟩ : ∃ E, est s (q + 1) (i - (q + 1)) = E := ⟨_, rfl⟩
          rw [hEE] at hS ⊢
          have g95 : ((cc : Int) == 95) = false := by simp; omega
          have g48 : decide ((48 : Int) ≤ cc) = true := decide_eq_true (by omega)
          have g57 : decide ((cc : Int) ≤ 57) = true := decide_eq_true (by omega)
          clear hEE
          by_cases hE1 : E < 10000
          · rw [if_pos hE1] at hS
            have gE : decide ((E : Int) < 10000) = true := decide_eq_true (by omega)
            have HS := Lib.hid hS
            have HV : Hid ((E : Int) * 10 + (cc : Int) - 48 = ((E * 10 + (cc - 48) : Nat) : Int)) := Lib.hid (by omega)
            clear hS
            go_wp2
            rw [HV.out]
            exact HK3.out (s.size - (i + 1)) (i + 1) _ _ (by have := HN.out; omega) ⟨rfl, by omega, by omega, rfl⟩ (by
              rw [HS.out]
              exact F61e_at _ _ _ _ _ rfl ⟨rfl, rfl, rfl, rfl, rfl, rfl, trivial⟩)
          · rw [if_neg hE1] at hS
            have gE : decide ((E : Int) < 10000) = false := decide_eq_false (by omega)
            have HS := Lib.hid hS
            clear hS
            go_wp2
            exact HK3.out (s.size - (i + 1)) (i + 1) _ _ (by have := HN.out; omega) ⟨rfl, by omega, by omega, rfl⟩ (by
              rw [HS.out]
              exact F61e_at _ _ _ _ _ rfl ⟨rfl, rfl, rfl, rfl, rfl, rfl, trivial⟩)
      · obtain ⟨hqs, hqc, r, sg, hr, hqr, hdg, hexx, hrq, hsgc, hsg⟩ := hk
        have hltd : decide ((q : Int) < s.size) = true := decide_eq_true (by omega)
        obtain ⟨cq, hcq⟩ : ∃ c : Nat, s[q].toNat = c := ⟨_, rfl⟩
        rw [bt_eq hqs, hcq] at hqc
        have hlow := low101 cq hqc
        have hl2 : q + 1 < s.size := by omega
        have hq2 : decide ((q : Int) + 1 ≥ s.size) = false := decide_eq_false (by omega)
        obtain ⟨w4, w5, w3, w2, w1x⟩ := idx1 hs hl2
        have HDG := Lib.hid hdg
        obtain ⟨c1, hc1⟩ : ∃ c : Nat, s[q + 1].toNat = c := ⟨_, rfl⟩
        rw [bt_eq hl2, hc1] at hsgc
        subst hsgc
        have hl3 : q + 2 < s.size := by omega
        have hq3 : decide ((q : Int) + 1 + 1 ≥ s.size) = false := decide_eq_false (by omega)
        have hq3' : decide ((q : Int) + 2 ≥ s.size) = false := decide_eq_false (by omega)
        have x1 : IntKind.i64.wrap ((q : Int) + 1 + 1) = (q : Int) + 2 := IntWalk.i64_in _ (by omega)
        have x2 : (0 : Int) ≤ (q : Int) + 2 := by omega
        have x3 : ((q : Int) + 2).toNat = q + 2 := by omega
        have x4 : (q : Int) + 2 < s.size := by omega
        obtain ⟨c2, hc2⟩ : ∃ c : Nat, s[q + 2].toNat = c := ⟨_, rfl⟩
        have hd1 := HDG.out (q + 2) (by omega) hl3
        rw [bt_eq hl3, hc2] at hd1
        have s3 : decide ((c2 : Int) < 48) = false := decide_eq_false (by omega)
        have s4 : decide ((c2 : Int) > 57) = false := decide_eq_false (by omega)
        subst hrq
        clear hqc hdg hd1
        have HSG : Hid (sg = 1) := Lib.hid hsg
        have HEX := Lib.hid hexx
        clear hexx hsg
        go_wp2
        rename_i KK2 hKK2
        have HR2 : ∀ (a' : Act) (w2 : World), w2 = w1 → (F61e g s s.size sg (est s (q + 2) (s.size - (q + 2))) fun k => a'.tmps.getD k undef) = a' → KK2 a' w2 := by
          rintro a' w2 rfl he
          rw [← he]
          apply hKK2
          clear hKK2 he
          generalize (fun k => a'.tmps.getD k undef) = u2
          rw [F61e_lit]
          have hEb := est_b s (q + 2) (s.size - (q + 2)) fun j hj => (HDG.out _ (by omega) (by omega)).2
          have hX := HEX.out
          obtain ⟨E, hEE⟩ : ∃ E, est s (q + 2) (s.size - (q + 2)) = E := ⟨_, rfl⟩
          rw [hEE] at hEb hX ⊢
          have hsg := HSG.out
          obtain ⟨P, hP⟩ : ∃ P : Int, (E : Int) * sg = P := ⟨_, rfl⟩
          have hX2 : ex = P := by rw [hX, ← hP, Int.mul_comm]
          have hPb : -99999 ≤ P ∧ P ≤ 99999 := by rw [← hP, hsg]; omega
          have y1 : IntKind.i64.wrap ((E : Int) * sg) = P := by rw [hP]; exact IntWalk.i64_in _ (by omega)
          have y2 : IntKind.i64.wrap (dp + P) = dp + P := IntWalk.i64_in _ (by omega)
          have HX2 := Lib.hid hX2
          have f1' := HBD.out.free 801
          have c1' := HBD.out.cells.2.1
          clear hX hP hEE hsg hX2 hEb
          go_wp2
          go_ret
          exact ⟨rfl, ⟨nd, dc, by rw [HDP.out, HX2.out]; exact DB.setDp HBD.out _, HDR.out⟩, by exact gb_set HGD.out _ _⟩
        have HR2 := Lib.hid HR2
        clear hKK2
        refine wp_loop_x (fun i : Nat => F61e g s i sg (est s (q + 2) (i - (q + 2)))) (fun n i w2 => n = s.size - i ∧ (q + 2) ≤ i ∧ i ≤ s.size ∧ w2 = w1) (s.size - (q + 2)) (q + 2) ⟨rfl, Nat.le_refl _, by omega, rfl⟩ (by rw [HSG.out, Nat.sub_self]; exact F61e_at _ _ _ _ _ rfl ⟨rfl, rfl, rfl, rfl, rfl, rfl, trivial⟩) ?_
        rintro n i u2 w2 ⟨hn, hi1, hi2, rfl⟩ K3 hK3
        have HN := Lib.hid hn; clear hn
        have HK3 := Lib.hid hK3; clear hK3
        rw [F61e_lit]
        by_cases his : i = s.size
        · have hq1 : decide ((i : Int) < s.size) = false := decide_eq_false (by omega)
          subst his
          obtain ⟨E, hEE⟩ : ∃ E, est s (q + 2) (s.size - (q + 2)) = E := ⟨_, rfl⟩
          rw [hEE]
          have HEE := Lib.hid hEE
          clear hEE
          go_wp2
          exact HR2.out _ _ rfl (by rw [HEE.out]; exact F61e_at _ _ _ _ _ rfl ⟨rfl, rfl, rfl, rfl, rfl, rfl, trivial⟩)
        · have hlt : i < s.size := by omega
          have hltd : decide ((i : Int) < s.size) = true := decide_eq_true (by omega)
          have hc := HDG.out i hi1 hlt
          have hS : est s (q + 2) (i + 1 - (q + 2)) = if est s (q + 2) (i - (q + 2)) < 10000 then est s (q + 2) (i - (q + 2)) * 10 + (bt s i - 48) else est s (q + 2) (i - (q + 2)) := by
            rw [show i + 1 - (q + 2) = i - (q + 2) + 1 by omega, est, show (q + 2) + (i - (q + 2)) = i by omega]
          obtain ⟨cc, hcc⟩ : ∃ c : Nat, s[i].toNat = c := ⟨_, rfl⟩
          rw [bt_eq hlt, hcc] at hc hS
          obtain ⟨E, hEE⟩ : ∃ E, est s (q + 2) (i - (q + 2)) = E := ⟨_, rfl⟩
          rw [hEE] at hS ⊢
          have g95 : ((cc : Int) == 95) = false := by simp; omega
          have g48 : decide ((48 : Int) ≤ cc) = true := decide_eq_true (by omega)
          have g57 : decide ((cc : Int) ≤ 57) = true := decide_eq_true (by omega)
          clear hEE
          by_cases hE1 : E < 10000
          · rw [if_pos hE1] at hS
            have gE : decide ((E : Int) < 10000) = true := decide_eq_true (by omega)
            have HS := Lib.hid hS
            have HV : Hid ((E : Int) * 10 + (cc : Int) - 48 = ((E * 10 + (cc - 48) : Nat) : Int)) := Lib.hid (by omega)
            clear hS
            go_wp2
            rw [HV.out]
            exact HK3.out (s.size - (i + 1)) (i + 1) _ _ (by have := HN.out; omega) ⟨rfl, by omega, by omega, rfl⟩ (by
              rw [HS.out]
              exact F61e_at _ _ _ _ _ rfl ⟨rfl, rfl, rfl, rfl, rfl, rfl, trivial⟩)
          · rw [if_neg hE1] at hS
            have gE : decide ((E : Int) < 10000) = false := decide_eq_false (by omega)
            have HS := Lib.hid hS
            clear hS
            go_wp2
            exact HK3.out (s.size - (i + 1)) (i + 1) _ _ (by have := HN.out; omega) ⟨rfl, by omega, by omega, rfl⟩ (by
              rw [HS.out]
              exact F61e_at _ _ _ _ _ rfl ⟨rfl, rfl, rfl, rfl, rfl, rfl, trivial⟩)
      · obtain ⟨hqs, hqc, r, sg, hr, hqr, hdg, hexx, hrq, hsgc, hsg⟩ := hk
        have hltd : decide ((q : Int) < s.size) = true := decide_eq_true (by omega)
        obtain ⟨cq, hcq⟩ : ∃ c : Nat, s[q].toNat = c := ⟨_, rfl⟩
        rw [bt_eq hqs, hcq] at hqc
        have hlow := low101 cq hqc
        have hl2 : q + 1 < s.size := by omega
        have hq2 : decide ((q : Int) + 1 ≥ s.size) = false := decide_eq_false (by omega)
        obtain ⟨w4, w5, w3, w2, w1x⟩ := idx1 hs hl2
        have HDG := Lib.hid hdg
        obtain ⟨c1, hc1⟩ : ∃ c : Nat, s[q + 1].toNat = c := ⟨_, rfl⟩
        rw [bt_eq hl2, hc1] at hsgc
        subst hsgc
        have hl3 : q + 2 < s.size := by omega
        have hq3 : decide ((q : Int) + 1 + 1 ≥ s.size) = false := decide_eq_false (by omega)
        have hq3' : decide ((q : Int) + 2 ≥ s.size) = false := decide_eq_false (by omega)
        have x1 : IntKind.i64.wrap ((q : Int) + 1 + 1) = (q : Int) + 2 := IntWalk.i64_in _ (by omega)
        have x2 : (0 : Int) ≤ (q : Int) + 2 := by omega
        have x3 : ((q : Int) + 2).toNat = q + 2 := by omega
        have x4 : (q : Int) + 2 < s.size := by omega
        obtain ⟨c2, hc2⟩ : ∃ c : Nat, s[q + 2].toNat = c := ⟨_, rfl⟩
        have hd1 := HDG.out (q + 2) (by omega) hl3
        rw [bt_eq hl3, hc2] at hd1
        have s3 : decide ((c2 : Int) < 48) = false := decide_eq_false (by omega)
        have s4 : decide ((c2 : Int) > 57) = false := decide_eq_false (by omega)
        subst hrq
        clear hqc hdg hd1
        have HSG : Hid (sg = -1) := Lib.hid hsg
        have HEX := Lib.hid hexx
        clear hexx hsg
        go_wp2
        rename_i KK2 hKK2
        have HR2 : ∀ (a' : Act) (w2 : World), w2 = w1 → (F61e g s s.size sg (est s (q + 2) (s.size - (q + 2))) fun k => a'.tmps.getD k undef) = a' → KK2 a' w2 := by
          rintro a' w2 rfl he
          rw [← he]
          apply hKK2
          clear hKK2 he
          generalize (fun k => a'.tmps.getD k undef) = u2
          rw [F61e_lit]
          have hEb := est_b s (q + 2) (s.size - (q + 2)) fun j hj => (HDG.out _ (by omega) (by omega)).2
          have hX := HEX.out
          obtain ⟨E, hEE⟩ : ∃ E, est s (q + 2) (s.size - (q + 2)) = E := ⟨_, rfl⟩
          rw [hEE] at hEb hX ⊢
          have hsg := HSG.out
          obtain ⟨P, hP⟩ : ∃ P : Int, (E : Int) * sg = P := ⟨_, rfl⟩
          have hX2 : ex = P := by rw [hX, ← hP, Int.mul_comm]
          have hPb : -99999 ≤ P ∧ P ≤ 99999 := by rw [← hP, hsg]; omega
          have y1 : IntKind.i64.wrap ((E : Int) * sg) = P := by rw [hP]; exact IntWalk.i64_in _ (by omega)
          have y2 : IntKind.i64.wrap (dp + P) = dp + P := IntWalk.i64_in _ (by omega)
          have HX2 := Lib.hid hX2
          have f1' := HBD.out.free 801
          have c1' := HBD.out.cells.2.1
          clear hX hP hEE hsg hX2 hEb
          go_wp2
          go_ret
          exact ⟨rfl, ⟨nd, dc, by rw [HDP.out, HX2.out]; exact DB.setDp HBD.out _, HDR.out⟩, by exact gb_set HGD.out _ _⟩
        have HR2 := Lib.hid HR2
        clear hKK2
        refine wp_loop_x (fun i : Nat => F61e g s i sg (est s (q + 2) (i - (q + 2)))) (fun n i w2 => n = s.size - i ∧ (q + 2) ≤ i ∧ i ≤ s.size ∧ w2 = w1) (s.size - (q + 2)) (q + 2) ⟨rfl, Nat.le_refl _, by omega, rfl⟩ (by rw [HSG.out, Nat.sub_self]; exact F61e_at _ _ _ _ _ rfl ⟨rfl, rfl, rfl, rfl, rfl, rfl, trivial⟩) ?_
        rintro n i u2 w2 ⟨hn, hi1, hi2, rfl⟩ K3 hK3
        have HN := Lib.hid hn; clear hn
        have HK3 := Lib.hid hK3; clear hK3
        rw [F61e_lit]
        by_cases his : i = s.size
        · have hq1 : decide ((i : Int) < s.size) = false := decide_eq_false (by omega)
          subst his
          obtain ⟨E, hEE⟩ : ∃ E, est s (q + 2) (s.size - (q + 2)) = E := ⟨_, rfl⟩
          rw [hEE]
          have HEE := Lib.hid hEE
          clear hEE
          go_wp2
          exact HR2.out _ _ rfl (by rw [HEE.out]; exact F61e_at _ _ _ _ _ rfl ⟨rfl, rfl, rfl, rfl, rfl, rfl, trivial⟩)
        · have hlt : i < s.size := by omega
          have hltd : decide ((i : Int) < s.size) = true := decide_eq_true (by omega)
          have hc := HDG.out i hi1 hlt
          have hS : est s (q + 2) (i + 1 - (q + 2)) = if est s (q + 2) (i - (q + 2)) < 10000 then est s (q + 2) (i - (q + 2)) * 10 + (bt s i - 48) else est s (q + 2) (i - (q + 2)) := by
            rw [show i + 1 - (q + 2) = i - (q + 2) + 1 by omega, est, show (q + 2) + (i - (q + 2)) = i by omega]
          obtain ⟨cc, hcc⟩ : ∃ c : Nat, s[i].toNat = c := ⟨_, rfl⟩
          rw [bt_eq hlt, hcc] at hc hS
          obtain ⟨E, hEE⟩ : ∃ E, est s (q + 2) (i - (q + 2)) = E := ⟨_, rfl⟩
          rw [hEE] at hS ⊢
          have g95 : ((cc : Int) == 95) = false := by simp; omega
          have g48 : decide ((48 : Int) ≤ cc) = true := decide_eq_true (by omega)
          have g57 : decide ((cc : Int) ≤ 57) = true := decide_eq_true (by omega)
          clear hEE
          by_cases hE1 : E < 10000
          · rw [if_pos hE1] at hS
            have gE : decide ((E : Int) < 10000) = true := decide_eq_true (by omega)
            have HS := Lib.hid hS
            have HV : Hid ((E : Int) * 10 + (cc : Int) - 48 = ((E * 10 + (cc - 48) : Nat) : Int)) := Lib.hid (by omega)
            clear hS
            go_wp2
            rw [HV.out]
            exact HK3.out (s.size - (i + 1)) (i + 1) _ _ (by have := HN.out; omega) ⟨rfl, by omega, by omega, rfl⟩ (by
              rw [HS.out]
              exact F61e_at _ _ _ _ _ rfl ⟨rfl, rfl, rfl, rfl, rfl, rfl, trivial⟩)
          · rw [if_neg hE1] at hS
            have gE : decide ((E : Int) < 10000) = false := decide_eq_false (by omega)
            have HS := Lib.hid hS
            clear hS
            go_wp2
            exact HK3.out (s.size - (i + 1)) (i + 1) _ _ (by have := HN.out; omega) ⟨rfl, by omega, by omega, rfl⟩ (by
              rw [HS.out]
              exact F61e_at _ _ _ _ _ rfl ⟨rfl, rfl, rfl, rfl, rfl, rfl, trivial⟩)
  have HRest := Lib.hid HRest
  clear hKK
  refine wp_loop_x (fun i : Nat => F61 g s i (mst s i).dot (mst s i).dig) (SetRel s q g w) q 0 ⟨rfl, Nat.zero_le _, ⟨_, HD2.out, fun j hj => absurd hj (by simp [mst])⟩, HG2.out⟩ (F61_at _ _ _ _ _ rfl ⟨rfl, rfl, rfl, rfl, rfl, rfl, trivial⟩) ?_
  intro n i u wr hrel K hK
  obtain ⟨hn, hi, ⟨dc, hB, hd⟩, hG⟩ := hrel
  have HK := Lib.hid hK; clear hK
  have HN := Lib.hid hn; clear hn
  have HG := Lib.hid hG; clear hG
  have hb := mst_b s i fun j hj => hM.out.1 j (by omega)
  obtain ⟨_, _, hnd, hdp1, hdp2⟩ := hb
  rw [F61_lit]
  by_cases hiq : i < q
  · have his : i < s.size := by omega
    have hc := hM.out.1 i hiq
    have hdt := hM.out.2.1 i hiq
    have SD := @st_dot s i
    have SZ := @st_zero s i
    have SG := @st_dig s i
    obtain ⟨cc, hcc⟩ : ∃ c : Nat, s[i].toNat = c := ⟨_, rfl⟩
    rw [bt_eq his, hcc] at hc hdt SD SZ SG
    obtain ⟨c0, c1, _, _⟩ := hB.cells
    have f0 := hB.free 800
    have f1 := hB.free 801
    have fin : ∀ (act : Act) (w3 : World), ((∃ dc, DB w3 g dc (mst s (i + 1)).nd (mst s (i + 1)).dp false ∧ ∀ j, j < (mst s (i + 1)).nd → dc j = 48 + fst s (i + 1) / 10 ^ ((mst s (i + 1)).nd - 1 - j) % 10) ∧ w.grownBy w3 (some g)) → (F61 g s (i + 1) (mst s (i + 1)).dot (mst s (i + 1)).dig fun k => act.tmps.getD k undef) = act → K act w3 :=
      fun act w3 h he => HK.out (q - (i + 1)) (i + 1) _ _ (by have := HN.out; omega) ⟨rfl, by omega, h.1, h.2⟩ he
    have FIN := Lib.hid fin
    clear fin HK HN
    have HD := Lib.hid hd
    have HB := Lib.hid hB
    obtain ⟨nd, hnd2⟩ : ∃ x, (mst s i).nd = x := ⟨_, rfl⟩
    obtain ⟨dp, hdp⟩ : ∃ x, (mst s i).dp = x := ⟨_, rfl⟩
    obtain ⟨dot, hdot⟩ : ∃ x, (mst s i).dot = x := ⟨_, rfl⟩
    obtain ⟨dig, hdig⟩ : ∃ x, (mst s i).dig = x := ⟨_, rfl⟩
    rw [hdot, hdig]
    rw [hnd2] at HB HD c0 hnd SD SZ SG
    rw [hdp] at HB c1 hdp1 hdp2 SZ SG
    rw [hdot] at hdt SZ SG
    rw [hdig] at SD
    have HSD := Lib.hid SD
    have HSZ := Lib.hid SZ
    have HSG := Lib.hid SG
    clear SD SZ SG hd hB hnd2 hdp hdot hdig
    have g95 : ((cc : Int) == 95) = false := by simp; omega
    have wi : IntKind.i64.wrap ((i : Int) + 1) = (i : Int) + 1 := IntWalk.i64_in _ (by omega)
    have hlt : (i : Int) < s.size := by omega
    by_cases h46 : cc = 46
    · have hdf := hdt h46
      subst hdf
      have g46 : ((cc : Int) == 46) = true := by simp [h46]
      obtain ⟨a1, a2, a3, a4, a5⟩ := HSD.out h46
      have HA : Hid ((mst s (i + 1)).nd = nd ∧ (mst s (i + 1)).dp = nd ∧ (mst s (i + 1)).dot = true ∧ (mst s (i + 1)).dig = dig ∧ fst s (i + 1) = fst s i) := Lib.hid ⟨a1, a2, a3, a4, a5⟩
      clear a1 a2 a3 a4 a5 h46 hdt hc
      go_wp2
      obtain ⟨a1, a2, a3, a4, a5⟩ := HA.out
      exact FIN.out _ _ ⟨by rw [a1, a2, a5]; exact ⟨dc, by exact DB.setDp HB.out nd, HD.out⟩, by exact gb_set HG.out _ _⟩ (by rw [a3, a4]; exact F61_at _ _ _ _ _ rfl ⟨rfl, rfl, rfl, rfl, rfl, rfl, trivial⟩)
    · have g46 : ((cc : Int) == 46) = false := by simp; omega
      have g48 : decide ((48 : Int) ≤ cc) = true := decide_eq_true (by omega)
      have g57 : decide ((cc : Int) ≤ 57) = true := decide_eq_true (by omega)
      by_cases hz : cc = 48 ∧ nd = 0
      · have gz : ((cc : Int) == 48) = true := by simp [hz.1]
        have gn : ((nd : Int) == 0) = true := by simp [hz.2]
        have w1 : IntKind.i64.wrap (dp - 1) = dp - 1 := IntWalk.i64_in _ (by omega)
        have HA := Lib.hid (HSZ.out hz.1 hz.2)
        clear hz hdt hc h46
        go_wp2
        obtain ⟨a1, a2, a3, a4, a5⟩ := HA.out
        exact FIN.out _ _ ⟨by rw [a1, a2, a5]; exact ⟨dc, by exact DB.setDp HB.out _, HD.out⟩, by exact gb_set HG.out _ _⟩ (by rw [a3, a4]; exact F61_at _ _ _ _ _ rfl ⟨rfl, rfl, rfl, rfl, rfl, rfl, trivial⟩)
      · have HA := Lib.hid (HSG.out h46 hz)
        have cn := HB.out.cell (show nd < 800 by omega)
        have fn := HB.out.free nd
        have hc9 : 48 ≤ cc ∧ cc ≤ 57 := by omega
        have HC9 := Lib.hid hc9
        have w1 : IntKind.i64.wrap ((nd : Int) + 1) = (nd : Int) + 1 := IntWalk.i64_in _ (by omega)
        have hn8 : decide ((nd : Int) < 800) = true := decide_eq_true (by omega)
        have hn9 : (nd : Int) < 800 := by omega
        clear hdt hc hc9
        by_cases gz : cc = 48
        · have gz1 : ((cc : Int) == 48) = true := by simp [gz]
          have gn : ((nd : Int) == 0) = false := by simp; omega
          clear hz h46 gz
          go_wp2
          go_region
          go_wp2
          obtain ⟨a1, a2, a3, a4, a5⟩ := HA.out
          refine FIN.out _ _ ⟨?_, gb_set (b := g) (gb_drewN (gb_set (b := g) HG.out nd (.int .u8 cc)) 1) 800 (.int .i64 ((nd : Int) + 1))⟩ (by rw [a3, a4]; exact F61_at _ _ _ _ _ rfl ⟨rfl, rfl, rfl, rfl, rfl, rfl, trivial⟩)
          rw [a1, a2, a5]
          exact ⟨upd dc nd cc, DB.setNd (DB.set HB.out (by omega) cc) (nd + 1), upd_dig HC9.out HD.out⟩
        · have gz1 : ((cc : Int) == 48) = false := by simp; omega
          clear hz h46 gz
          go_wp2
          go_region
          go_wp2
          obtain ⟨a1, a2, a3, a4, a5⟩ := HA.out
          refine FIN.out _ _ ⟨?_, gb_set (b := g) (gb_drewN (gb_set (b := g) HG.out nd (.int .u8 cc)) 1) 800 (.int .i64 ((nd : Int) + 1))⟩ (by rw [a3, a4]; exact F61_at _ _ _ _ _ rfl ⟨rfl, rfl, rfl, rfl, rfl, rfl, trivial⟩)
          rw [a1, a2, a5]
          exact ⟨upd dc nd cc, DB.setNd (DB.set HB.out (by omega) cc) (nd + 1), upd_dig HC9.out HD.out⟩
  · obtain rfl : i = q := by omega
    have hb := HK
    clear hb
    have HD := Lib.hid hd; clear hd
    have HB := Lib.hid hB; clear hB
    have fin : ∀ (act : Act) (w3 : World), w3 = wr → (F61 g s i (mst s i).dot (mst s i).dig fun k => act.tmps.getD k undef) = act → KK act w3 := by
      rintro act w3 rfl he
      exact HRest.out _ _ ⟨⟨dc, HB.out, HD.out⟩, HG.out⟩ he
    have FIN := Lib.hid fin
    clear fin HK HN
    obtain ⟨dot, hdot⟩ : ∃ x, (mst s i).dot = x := ⟨_, rfl⟩
    obtain ⟨dig, hdig⟩ : ∃ x, (mst s i).dig = x := ⟨_, rfl⟩
    rw [hdot, hdig] at FIN ⊢
    clear hdot hdig hnd hdp1 hdp2
    by_cases his : i = s.size
    · have g1 : decide ((i : Int) < s.size) = false := decide_eq_false (by omega)
      subst his
      clear hiq
      go_wp2
      exact FIN.out _ _ rfl (F61_at _ _ _ _ _ rfl ⟨rfl, rfl, rfl, rfl, rfl, rfl, trivial⟩)
    · have hlt : i < s.size := by omega
      have g1 : decide ((i : Int) < s.size) = true := decide_eq_true (by omega)
      have hcE : bt s i = 69 ∨ bt s i = 101 := by
        rcases hE.out with h | ⟨_, h, _⟩
        · omega
        · exact h
      obtain ⟨cc, hcc⟩ : ∃ c : Nat, s[i].toNat = c := ⟨_, rfl⟩
      rw [bt_eq hlt, hcc] at hcE
      have g95 : ((cc : Int) == 95) = false := by simp; omega
      have g46 : ((cc : Int) == 46) = false := by simp; omega
      have g57 : decide ((cc : Int) ≤ 57) = false := decide_eq_false (by omega)
      have g48 : decide ((48 : Int) ≤ cc) = true := decide_eq_true (by omega)
      clear hcE hiq his
      go_wp2
      exact FIN.out _ _ rfl (F61_at _ _ _ _ _ rfl ⟨rfl, rfl, rfl, rfl, rfl, rfl, trivial⟩)
end Go.Proofs.YtblphppdfiipfaaDoor
