/- impl.Number keeps the value and is no longer. Conditions: none. -/
import Derived.Test.YtblphppdfiipfaaDoorCMinF
import Derived.Test.YtblphppdfiipfaaDoorCMinB
import Derived.Lib.ConvBytes
import Derived.Laws.BytesArg
namespace Go.Proofs.YtblphppdfiipfaaDoor
open Go.RowKit
set_option maxRecDepth 100000

/-- the bytes, as a text -/
def txt (c : Nat → Nat) (S M : Nat) : ByteArray := strOfNums ((List.range M).map fun j => (c (S + j) : Int))
theorem txt_size (c : Nat → Nat) (S M : Nat) : (txt c S M).size = M := by
  unfold txt strOfNums
  show Array.size _ = _
  simp
theorem txt_bt (c : Nat → Nat) (S M j : Nat) (hj : j < M) (hc : c (S + j) < 256) : bt (txt c S M) j = c (S + j) := by
  have h : j < (txt c S M).size := by rw [txt_size]; exact hj
  rw [bt_eq h]
  have e : (txt c S M)[j] = UInt8.ofNat (c (S + j)) := by
    show (txt c S M).data[j]'(h) = _
    unfold txt strOfNums
    simp
  rw [e]
  simp
  omega
theorem run_back {w : World} {g N : Nat} {c : Nat → Nat} (hB : Blk w g N c) (S M capx : Nat) (h : S + M ≤ N) :
    (convert 33 9 (.slice (some ⟨g, S, none⟩) M capx)).run Tryd.prog w = .ok (.string (txt c S M)) w := by
  refine run_convert_bytes_arg w 33 5 Tryd.underlying33 Tryd.underlying5 g S M capx _ (by simp) (fun i hi => ?_) 9 Tryd.underlying9
  rw [hB.cell (S + i) (by omega)]
  simp [List.getD, hi]

/-- the text in bytes -/
theorem bytes_blk (w : World) (s : ByteArray) : Blk (Lib.bytesWorld w 5 s) w.heap.size s.size (bt s) := by
  intro j hj
  refine ⟨?_, ?_⟩
  · rw [Lib.bytesWorld_cell w 5 s j hj]
    rw [bt_eq hj]
    have e : s.data.toList.getD j 0 = s[j] := by
      have : j < s.data.toList.length := by simpa using hj
      simp [List.getD, List.getElem?_eq_getElem this]
      rfl
    rw [e]
  · have := Lib.bytesWorld_at_new w 5 s
    simp [World.frozen?, this, Lib.bytesCells]
    omega
theorem bytes_gb (w : World) (s : ByteArray) : w.grownBy (Lib.bytesWorld w 5 s) none := by
  refine ⟨rfl, rfl, rfl, by rw [Lib.bytesWorld_size]; omega, fun k hk _ => Lib.bytesWorld_at_old w 5 s k hk⟩
theorem ShpC.congr {b b' : Nat → Nat} {q k a n : Nat} {d : Nat → Nat} (h : ShpC b q k a n d) (he : ∀ j, j < q → b j = b' j) : ShpC b' q k a n d := by
  have hq := h.kq
  have hf := h.fit
  exact ⟨hq, fun hk => by rw [← he k hk]; exact h.dot hk, h.n1, h.fit, h.dig, h.d0, fun j hj => by rw [← he _ (dpos_lt hq (by omega))]; exact h.lead j hj, fun j hj => by rw [← he _ (dpos_lt hq (by omega))]; exact h.mid j hj, fun j h1 h2 => by rw [← he _ (dpos_lt hq h2)]; exact h.tail j h1 h2⟩
theorem ExB.congr {b b' : Nat → Nat} {q M : Nat} {ex : Int} (h : ExB b q M ex) (he : ∀ j, j < M → b j = b' j) : ExB b' q M ex := by
  rcases h with h | ⟨h1, o, x, L, h2, h3, h4, h5, h6, h7⟩
  · exact .inl h
  · right
    have ho : q + 1 ≤ o := by rcases h7 with ⟨h, _⟩ | ⟨h, _⟩ <;> omega
    refine ⟨by rw [← he q (by omega)]; exact h1, o, x, L, h2, h3, h4, h5, fun j hj => by rw [← he _ (by omega)]; exact h6 j hj, ?_⟩
    rcases h7 with ⟨h, h'⟩ | ⟨h, h', h''⟩
    · exact .inl ⟨h, h'⟩
    · exact .inr ⟨h, by rw [← he _ (by omega)]; exact h', h''⟩
theorem OutOk.congr {c b b' : Nat → Nat} {N q k M : Nat} {ex : Int} (h : OutOk c N q k ex b M) (he : ∀ j, j < M → b j = b' j) (hM : 1 ≤ M) : OutOk c N q k ex b' M := by
  rcases h with ⟨h1, h2⟩ | ⟨h1, h2, h3⟩ | ⟨a, n, d, h1, q', k', a', ex', h2, h3, h4, h5, h6⟩
  · exact .inl ⟨h1, fun j hj => by rw [← he j (by omega)]; exact h2 j hj⟩
  · exact .inr (.inl ⟨h1, by rw [← he 0 (by omega)]; exact h2, h3⟩)
  · exact .inr (.inr ⟨a, n, d, h1, q', k', a', ex', h2, h3.congr fun j hj => he j (by omega), fun h => by rw [← he 0 (by omega)]; exact h4 h, h5.congr he, h6⟩)
theorem OutOk.byte {c b : Nat → Nat} {N q k M : Nat} {ex : Int} (h : OutOk c N q k ex b M) (hc : ∀ j, j < N → c j < 256) : ∀ j, j < M → b j < 256 := by
  intro j hj
  rcases h with ⟨h1, h2⟩ | ⟨h1, h2, _⟩ | ⟨a, n, d, _, q', k', a', ex', h2, h3, h4, h5, h6⟩
  · rw [h2 j (by omega)]; exact hc j (by omega)
  · rw [show j = 0 by omega, h2]; omega
  · by_cases hq : j < q'
    · by_cases hk : j = k'
      · subst hk; rw [h3.dot hq]; omega
      · have := shpC_dig h3 j hq hk; omega
    · rcases h5 with ⟨h, _⟩ | ⟨h7, o, x, L, h8, h9, h10, h11, h12, h13⟩
      · omega
      · have hw := wr_dig h12
        by_cases ho : o ≤ j
        · have := hw j ho (by omega); omega
        · rcases h13 with ⟨h, _⟩ | ⟨h, h', _⟩
          · rw [show j = q' by omega, h7]; omega
          · by_cases e : j = q'
            · rw [e, h7]; omega
            · rw [show j = q' + 1 by omega, h']; omega

set_option maxHeartbeats 400000 in
theorem num9_one (g cap : Nat) (w : World) : Calls Tryd.prog 9 #[.slice (some ⟨g, 0, none⟩) 1 cap, .int .i64 (-1)] w fun e w' => e = .returned (.slice (some ⟨g, 0, none⟩) 1 cap) ∧ w' = w := by
  go_enter Tryd.func9, Tryd.ntmps9
  go_wp2
  go_ret
  exact ⟨rfl, rfl⟩
theorem gb_fr {w0 w w' : World} {r : Nat} (h : w0.grownBy w none) (h2 : w.grownBy w' (some r)) (hr : w0.heap.size ≤ r) : w0.grownBy w' none :=
  ⟨h2.os.trans h.os, h2.tape.trans h.tape, h2.output.trans h.output, Nat.le_trans h.size h2.size, fun k hk _ => by
    rw [h2.block k (Nat.lt_of_lt_of_le hk h.size) (by simp; omega)]
    exact h.block k hk (by simp)⟩
def INPost (s : ByteArray) (w : World) (e : Ending) (w' : World) : Prop := ∃ t : ByteArray, e = .returned (.string t) ∧ w.grownBy w' none ∧ Lit t ∧ numL t = numL s ∧ t.size ≤ s.size

set_option maxHeartbeats 1000000 in
theorem inum_any (s : ByteArray) (w : World) (hs : s.size ≤ 100) (hL : Lit s) (hx : dct s s.size ≤ 4) : Calls Tryd.prog 6 #[.string s, .int .i64 (-1)] w (INPost s w) := by
  have h0 : 0 < s.size := hL.1.lt
  have hcv := Lib.run_convert_string_bytes (P := Tryd.prog) w 9 33 5 s (u := .string) Tryd.underlying9 Tryd.underlying33 Tryd.underlying5
  have hB := bytes_blk w s
  have hG := bytes_gb w s
  obtain ⟨cap, hcap⟩ : ∃ cap, grownCap w s.size 0 5 = cap := ⟨_, rfl⟩
  have hcl : s.size ≤ cap := by rw [← hcap]; exact grownCap_ge _ _ _ _
  rw [hcap] at hcv
  generalize Lib.bytesWorld w 5 s = W at hcv hB hG
  obtain ⟨g, hg⟩ : ∃ g, w.heap.size = g := ⟨_, rfl⟩
  rw [hg] at hcv hB
  have HB := Lib.hid hB
  have HG := Lib.hid hG
  have HGG := Lib.hid hg
  have HL := Lib.hid hL
  have HX := Lib.hid hx
  clear hcap hB hG hg hL hx
  by_cases h1 : s.size = 1
  · have hbk := run_back HB.out 0 1 cap (by omega)
    have ht : Hid (txt (bt s) 0 1 = s) := Lib.hid (ext_of_bt (by rw [txt_size, h1]) fun j hj => by rw [txt_size] at hj; rw [txt_bt _ _ _ _ hj (bt_lt _ _), Nat.zero_add])
    rw [h1] at hcv
    have H1 := Lib.hid h1
    clear h1
    go_enter Tryd.func6, Tryd.ntmps6
    go_wp2_with fail
    refine (num9_one g cap W).mono ?_
    rintro e w' ⟨rfl, rfl⟩
    go_wp2
    go_ret
    exact ⟨_, rfl, HG.out, by rw [ht.out]; exact HL.out, by rw [ht.out], by rw [ht.out]; omega⟩
  · obtain ⟨k, hI⟩ := in9_of hs (by omega) HL.out HX.out
    have HI := Lib.hid hI
    have HC := Lib.hid (num9_any g s.size cap _ k _ _ W hI hcl HB.out)
    clear hI h1
    go_enter Tryd.func6, Tryd.ntmps6
    go_wp2_with fail
    refine HC.out.mono ?_
    rintro e w2 ⟨S, M, capx, c', rfl, hM, hSM, hB2, hG2, hO⟩
    have hby := hO.byte fun j _ => bt_lt s j
    have hbk := run_back hB2 S M capx hSM
    have hO2 := hO.congr (b' := bt (txt c' S M)) (fun j hj => (txt_bt c' S M j hj (hby j hj)).symm) hM
    have hlaw := out_law HI.out HL.out rfl rfl (t := txt c' S M) (by rw [txt_size]; omega) (by rw [txt_size]; exact hO2)
    have HLAW := Lib.hid hlaw
    have HG2 := Lib.hid (gb_fr HG.out hG2 (by rw [HGG.out]; exact Nat.le_refl _))
    have hts : Hid ((txt c' S M).size ≤ s.size) := Lib.hid (by rw [txt_size]; omega)
    clear hlaw hO2 hO hby hB2 hG2
    go_wp2
    go_ret
    exact ⟨_, rfl, HG2.out, HLAW.out.1, HLAW.out.2, hts.out⟩
end Go.Proofs.YtblphppdfiipfaaDoor
