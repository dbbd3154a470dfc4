/- ParseUint returns at every short text. Conditions: none. -/
import Derived.Test.YtblphppdfiipfaaDoorCHex
import Derived.WalkSmall
import Derived.Laws.IdiomStrings
namespace Go.Proofs.YtblphppdfiipfaaDoor
open Go.RowKit
set_option maxRecDepth 100000

def F35 (b i cp cap x : Nat) (s : ByteArray) (k : Int) (cut mx : Nat) : (Nat → Value) → Act := FG 172 [(1, .int .i64 k), (8, .bool false), (9, .string s), (10, .int .u64 cut), (11, .int .u64 mx), (12, .bool false), (13, .int .u64 x), (99, .slice (some ⟨b, 0, none⟩) cp cap), (100, .int .i64 cp), (101, .int .i64 i)]
theorem F35_lit (b i cp cap x : Nat) (s : ByteArray) (k : Int) (cut mx : Nat) (u : Nat → Value) : F35 b i cp cap x  s  k  cut mx u = { tmps := #[u 0, .int .i64 k, u 2, u 3, u 4, u 5, u 6, u 7, .bool false, .string s, .int .u64 cut, .int .u64 mx, .bool false, .int .u64 x, u 14, u 15, u 16, u 17, u 18, u 19, u 20, u 21, u 22, u 23, u 24, u 25, u 26, u 27, u 28, u 29, u 30, u 31, u 32, u 33, u 34, u 35, u 36, u 37, u 38, u 39, u 40, u 41, u 42, u 43, u 44, u 45, u 46, u 47, u 48, u 49, u 50, u 51, u 52, u 53, u 54, u 55, u 56, u 57, u 58, u 59, u 60, u 61, u 62, u 63, u 64, u 65, u 66, u 67, u 68, u 69, u 70, u 71, u 72, u 73, u 74, u 75, u 76, u 77, u 78, u 79, u 80, u 81, u 82, u 83, u 84, u 85, u 86, u 87, u 88, u 89, u 90, u 91, u 92, u 93, u 94, u 95, u 96, u 97, u 98, .slice (some ⟨b, 0, none⟩) cp cap, .int .i64 cp, .int .i64 i, u 102, u 103, u 104, u 105, u 106, u 107, u 108, u 109, u 110, u 111, u 112, u 113, u 114, u 115, u 116, u 117, u 118, u 119, u 120, u 121, u 122, u 123, u 124, u 125, u 126, u 127, u 128, u 129, u 130, u 131, u 132, u 133, u 134, u 135, u 136, u 137, u 138, u 139, u 140, u 141, u 142, u 143, u 144, u 145, u 146, u 147, u 148, u 149, u 150, u 151, u 152, u 153, u 154, u 155, u 156, u 157, u 158, u 159, u 160, u 161, u 162, u 163, u 164, u 165, u 166, u 167, u 168, u 169, u 170, u 171], defers := [] } := by kernel_rfl
theorem F35_at (b i cp cap x : Nat) (s : ByteArray) (k : Int) (cut mx : Nat) {L : List Value} (hl : L.length = 172) (hn : NmOk L [(1, .int .i64 k), (8, .bool false), (9, .string s), (10, .int .u64 cut), (11, .int .u64 mx), (12, .bool false), (13, .int .u64 x), (99, .slice (some ⟨b, 0, none⟩) cp cap), (100, .int .i64 cp), (101, .int .i64 i)]) : (F35 b i cp cap x  s  k  cut mx fun k => (Act.mk L.toArray []).tmps.getD k undef) = { tmps := L.toArray, defers := [] } := FG_at hl hn

def Pu0Post (w : World) (e : Ending) (w' : World) : Prop :=
  ∃ (v : Nat) (er : Value), e = .returned (.tuple #[.int .u64 v, er]) ∧ v < P64 ∧ (er = .nilIface ∨ er = .iface 77 (.int .i64 1) ∨ er = .iface 77 (.int .i64 2)) ∧ Below w.heap.size w w'

theorem wrap_nat (z : Int) : ∃ m : Nat, IntKind.u64.wrap z = m ∧ m < P64 := by
  have e : IntKind.u64.wrap z = z % 18446744073709551616 := by simp [IntKind.wrap, IntKind.bits, IntKind.signed]
  refine ⟨(IntKind.u64.wrap z).toNat, ?_, ?_⟩
  · rw [e]; omega
  · rw [e]; unfold P64; omega

/-- the bytes laid in a new row -/
theorem bytes_laid (s : ByteArray) (w : World) : ∃ (cap : Nat) (W : World), (convert 9 33 (.string s)).run Tryd.prog w = .ok (.slice (some ⟨w.heap.size, 0, none⟩) s.size cap) W ∧
    s.size ≤ cap ∧ Below w.heap.size w W ∧ ∀ j (h : j < s.size), W.cell? ⟨w.heap.size, j, none⟩ = some (.int .u8 s[j].toNat) := by
  have h := run_bytes_of_string (P := Tryd.prog) w 9 33 5 s Tryd.underlying9 Tryd.underlying33 Tryd.underlying5
  refine ⟨_, _, h, grownCap_ge _ _ _ _, ((Below.refl _ _).drew).alloc (by simp) _, fun j hj => ?_⟩
  have hn := heap_alloc_new w.drew (.cells (bytesRow s (grownCap w s.size 0 5)) 5 ((bytesRow s (grownCap w s.size 0 5)).size, (bytesRow s (grownCap w s.size 0 5)).size + 1))
  have hb := bytesRow_at s (grownCap w s.size 0 5) j hj
  unfold World.cell?
  rw [show (⟨w.heap.size, j, none⟩ : Addr).block = w.drew.heap.size from rfl, hn]
  exact hb

def PuRel (s : ByteArray) (W : World) (n : Nat) (x : Nat × Nat) (wr : World) : Prop := n = s.size - x.1 ∧ x.1 ≤ s.size ∧ x.2 < P64 ∧ wr = W

set_option maxHeartbeats 4000000 in
theorem pu0_any (s : ByteArray) (k n : Int) (w : World) (hs : s.size ≤ 100) (hk : k = 16 ∨ k = 8 ∨ k = 2) (hn : n = 32 ∨ n = 64) :
    Calls Tryd.prog 35 #[.string s, .int .i64 k, .int .i64 n] w (Pu0Post w) := by
  obtain ⟨cap, W, hconv, hcap, hbel, hcell⟩ := bytes_laid s w
  have HB := Lib.hid hbel
  have HC := Lib.hid hcell
  clear hbel hcell
  obtain ⟨b, hb⟩ : ∃ b, w.heap.size = b := ⟨_, rfl⟩
  rw [hb] at hconv HB HC
  have HBB := Lib.hid hb
  clear hb
  have fin : ∀ (e : Ending) (v : Nat) (er : Value) (W' : World), W' = W → e = .returned (.tuple #[.int .u64 v, er]) → v < P64 → (er = .nilIface ∨ er = .iface 77 (.int .i64 1) ∨ er = .iface 77 (.int .i64 2)) → Pu0Post w e W' := by
    rintro e v er W' rfl he hv her
    exact ⟨v, er, he, hv, her, by have := HB.out; rw [HBB.out]; exact this⟩
  have FIN := Lib.hid fin
  clear fin
  rcases hk with rfl | rfl | rfl
  all_goals rcases hn with rfl | rfl
  · go_enter Tryd.func35, Tryd.ntmps35
    go_wp2
    · go_ret2
      exact ⟨0, _, rfl, by decide, .inr (.inr rfl), Below.refl _ _⟩
    clear hconv
    obtain ⟨cut, hcut⟩ : ∃ c : Nat, (1152921504606846976 : Nat) = c := ⟨_, rfl⟩
    obtain ⟨mx, hmx⟩ : ∃ c : Nat, (4294967295 : Nat) = c := ⟨_, rfl⟩
    have HCUT := Lib.hid hcut
    have HMX : Hid (mx < P64) := Lib.hid (by rw [← hmx]; decide)
    have HMX2 := Lib.hid hmx
    clear hcut hmx
    refine wp_loop_x (fun x : Nat × Nat => F35 b x.1 s.size cap x.2 s 16 cut mx) (PuRel s W) s.size (0, 0) ⟨rfl, Nat.zero_le _, by decide, rfl⟩ (F35_at _ _ _ _ _ _ _ _ _ rfl ⟨rfl, rfl, rfl, by rw [← HCUT.out]; rfl, by rw [← HMX2.out]; rfl, rfl, rfl, rfl, rfl, rfl, trivial⟩) ?_
    rintro m ⟨i, x⟩ u wr ⟨hm, hi, hx, rfl⟩ K hK
    simp only at hm hi hx
    have HM := Lib.hid hm
    have HX := Lib.hid hx
    have HK := Lib.hid hK
    clear hm hx hK
    rw [F35_lit]
    by_cases hlt : i < s.size
    · have ci := HC.out i hlt
      have hcp : (i : Int) < s.size := by omega
      obtain ⟨c, hc⟩ : ∃ c : Nat, s[i].toNat = c := ⟨_, rfl⟩
      rw [hc] at ci
      clear hc
      go_wp2
      all_goals first
        | (go_ret2
           exact FIN.out _ 0 _ _ rfl rfl (by decide) (.inr (.inr rfl)))
        | (go_ret2
           exact FIN.out _ mx _ _ rfl rfl HMX.out (.inr (.inl rfl)))
        | (obtain ⟨m2, hm2, hm3⟩ := wrap_nat _
           exact HK.out (s.size - (i + 1)) (i + 1, m2) _ _ (by have := HM.out; omega) ⟨rfl, by show i + 1 ≤ s.size; omega, hm3, rfl⟩ (F35_at _ _ _ _ _ _ _ _ _ rfl ⟨rfl, rfl, rfl, rfl, rfl, rfl, by rw [← hm2]; rfl, rfl, rfl, rfl, trivial⟩))
        | trace_state
    · go_wp2
      go_ret2
      exact FIN.out _ x _ _ rfl rfl HX.out (.inl rfl)
  · go_enter Tryd.func35, Tryd.ntmps35
    go_wp2
    · go_ret2
      exact ⟨0, _, rfl, by decide, .inr (.inr rfl), Below.refl _ _⟩
    clear hconv
    obtain ⟨cut, hcut⟩ : ∃ c : Nat, (1152921504606846976 : Nat) = c := ⟨_, rfl⟩
    obtain ⟨mx, hmx⟩ : ∃ c : Nat, (18446744073709551615 : Nat) = c := ⟨_, rfl⟩
    have HCUT := Lib.hid hcut
    have HMX : Hid (mx < P64) := Lib.hid (by rw [← hmx]; decide)
    have HMX2 := Lib.hid hmx
    clear hcut hmx
    refine wp_loop_x (fun x : Nat × Nat => F35 b x.1 s.size cap x.2 s 16 cut mx) (PuRel s W) s.size (0, 0) ⟨rfl, Nat.zero_le _, by decide, rfl⟩ (F35_at _ _ _ _ _ _ _ _ _ rfl ⟨rfl, rfl, rfl, by rw [← HCUT.out]; rfl, by rw [← HMX2.out]; rfl, rfl, rfl, rfl, rfl, rfl, trivial⟩) ?_
    rintro m ⟨i, x⟩ u wr ⟨hm, hi, hx, rfl⟩ K hK
    simp only at hm hi hx
    have HM := Lib.hid hm
    have HX := Lib.hid hx
    have HK := Lib.hid hK
    clear hm hx hK
    rw [F35_lit]
    by_cases hlt : i < s.size
    · have ci := HC.out i hlt
      have hcp : (i : Int) < s.size := by omega
      obtain ⟨c, hc⟩ : ∃ c : Nat, s[i].toNat = c := ⟨_, rfl⟩
      rw [hc] at ci
      clear hc
      go_wp2
      all_goals first
        | (go_ret2
           exact FIN.out _ 0 _ _ rfl rfl (by decide) (.inr (.inr rfl)))
        | (go_ret2
           exact FIN.out _ mx _ _ rfl rfl HMX.out (.inr (.inl rfl)))
        | (obtain ⟨m2, hm2, hm3⟩ := wrap_nat _
           exact HK.out (s.size - (i + 1)) (i + 1, m2) _ _ (by have := HM.out; omega) ⟨rfl, by show i + 1 ≤ s.size; omega, hm3, rfl⟩ (F35_at _ _ _ _ _ _ _ _ _ rfl ⟨rfl, rfl, rfl, rfl, rfl, rfl, by rw [← hm2]; rfl, rfl, rfl, rfl, trivial⟩))
        | trace_state
    · go_wp2
      go_ret2
      exact FIN.out _ x _ _ rfl rfl HX.out (.inl rfl)
  · go_enter Tryd.func35, Tryd.ntmps35
    go_wp2
    · go_ret2
      exact ⟨0, _, rfl, by decide, .inr (.inr rfl), Below.refl _ _⟩
    clear hconv
    obtain ⟨cut, hcut⟩ : ∃ c : Nat, (2305843009213693952 : Nat) = c := ⟨_, rfl⟩
    obtain ⟨mx, hmx⟩ : ∃ c : Nat, (4294967295 : Nat) = c := ⟨_, rfl⟩
    have HCUT := Lib.hid hcut
    have HMX : Hid (mx < P64) := Lib.hid (by rw [← hmx]; decide)
    have HMX2 := Lib.hid hmx
    clear hcut hmx
    refine wp_loop_x (fun x : Nat × Nat => F35 b x.1 s.size cap x.2 s 8 cut mx) (PuRel s W) s.size (0, 0) ⟨rfl, Nat.zero_le _, by decide, rfl⟩ (F35_at _ _ _ _ _ _ _ _ _ rfl ⟨rfl, rfl, rfl, by rw [← HCUT.out]; rfl, by rw [← HMX2.out]; rfl, rfl, rfl, rfl, rfl, rfl, trivial⟩) ?_
    rintro m ⟨i, x⟩ u wr ⟨hm, hi, hx, rfl⟩ K hK
    simp only at hm hi hx
    have HM := Lib.hid hm
    have HX := Lib.hid hx
    have HK := Lib.hid hK
    clear hm hx hK
    rw [F35_lit]
    by_cases hlt : i < s.size
    · have ci := HC.out i hlt
      have hcp : (i : Int) < s.size := by omega
      obtain ⟨c, hc⟩ : ∃ c : Nat, s[i].toNat = c := ⟨_, rfl⟩
      rw [hc] at ci
      clear hc
      go_wp2
      all_goals first
        | (go_ret2
           exact FIN.out _ 0 _ _ rfl rfl (by decide) (.inr (.inr rfl)))
        | (go_ret2
           exact FIN.out _ mx _ _ rfl rfl HMX.out (.inr (.inl rfl)))
        | (obtain ⟨m2, hm2, hm3⟩ := wrap_nat _
           exact HK.out (s.size - (i + 1)) (i + 1, m2) _ _ (by have := HM.out; omega) ⟨rfl, by show i + 1 ≤ s.size; omega, hm3, rfl⟩ (F35_at _ _ _ _ _ _ _ _ _ rfl ⟨rfl, rfl, rfl, rfl, rfl, rfl, by rw [← hm2]; rfl, rfl, rfl, rfl, trivial⟩))
        | trace_state
    · go_wp2
      go_ret2
      exact FIN.out _ x _ _ rfl rfl HX.out (.inl rfl)
  · go_enter Tryd.func35, Tryd.ntmps35
    go_wp2
    · go_ret2
      exact ⟨0, _, rfl, by decide, .inr (.inr rfl), Below.refl _ _⟩
    clear hconv
    obtain ⟨cut, hcut⟩ : ∃ c : Nat, (2305843009213693952 : Nat) = c := ⟨_, rfl⟩
    obtain ⟨mx, hmx⟩ : ∃ c : Nat, (18446744073709551615 : Nat) = c := ⟨_, rfl⟩
    have HCUT := Lib.hid hcut
    have HMX : Hid (mx < P64) := Lib.hid (by rw [← hmx]; decide)
    have HMX2 := Lib.hid hmx
    clear hcut hmx
    refine wp_loop_x (fun x : Nat × Nat => F35 b x.1 s.size cap x.2 s 8 cut mx) (PuRel s W) s.size (0, 0) ⟨rfl, Nat.zero_le _, by decide, rfl⟩ (F35_at _ _ _ _ _ _ _ _ _ rfl ⟨rfl, rfl, rfl, by rw [← HCUT.out]; rfl, by rw [← HMX2.out]; rfl, rfl, rfl, rfl, rfl, rfl, trivial⟩) ?_
    rintro m ⟨i, x⟩ u wr ⟨hm, hi, hx, rfl⟩ K hK
    simp only at hm hi hx
    have HM := Lib.hid hm
    have HX := Lib.hid hx
    have HK := Lib.hid hK
    clear hm hx hK
    rw [F35_lit]
    by_cases hlt : i < s.size
    · have ci := HC.out i hlt
      have hcp : (i : Int) < s.size := by omega
      obtain ⟨c, hc⟩ : ∃ c : Nat, s[i].toNat = c := ⟨_, rfl⟩
      rw [hc] at ci
      clear hc
      go_wp2
      all_goals first
        | (go_ret2
           exact FIN.out _ 0 _ _ rfl rfl (by decide) (.inr (.inr rfl)))
        | (go_ret2
           exact FIN.out _ mx _ _ rfl rfl HMX.out (.inr (.inl rfl)))
        | (obtain ⟨m2, hm2, hm3⟩ := wrap_nat _
           exact HK.out (s.size - (i + 1)) (i + 1, m2) _ _ (by have := HM.out; omega) ⟨rfl, by show i + 1 ≤ s.size; omega, hm3, rfl⟩ (F35_at _ _ _ _ _ _ _ _ _ rfl ⟨rfl, rfl, rfl, rfl, rfl, rfl, by rw [← hm2]; rfl, rfl, rfl, rfl, trivial⟩))
        | trace_state
    · go_wp2
      go_ret2
      exact FIN.out _ x _ _ rfl rfl HX.out (.inl rfl)
  · go_enter Tryd.func35, Tryd.ntmps35
    go_wp2
    · go_ret2
      exact ⟨0, _, rfl, by decide, .inr (.inr rfl), Below.refl _ _⟩
    clear hconv
    obtain ⟨cut, hcut⟩ : ∃ c : Nat, (9223372036854775808 : Nat) = c := ⟨_, rfl⟩
    obtain ⟨mx, hmx⟩ : ∃ c : Nat, (4294967295 : Nat) = c := ⟨_, rfl⟩
    have HCUT := Lib.hid hcut
    have HMX : Hid (mx < P64) := Lib.hid (by rw [← hmx]; decide)
    have HMX2 := Lib.hid hmx
    clear hcut hmx
    refine wp_loop_x (fun x : Nat × Nat => F35 b x.1 s.size cap x.2 s 2 cut mx) (PuRel s W) s.size (0, 0) ⟨rfl, Nat.zero_le _, by decide, rfl⟩ (F35_at _ _ _ _ _ _ _ _ _ rfl ⟨rfl, rfl, rfl, by rw [← HCUT.out]; rfl, by rw [← HMX2.out]; rfl, rfl, rfl, rfl, rfl, rfl, trivial⟩) ?_
    rintro m ⟨i, x⟩ u wr ⟨hm, hi, hx, rfl⟩ K hK
    simp only at hm hi hx
    have HM := Lib.hid hm
    have HX := Lib.hid hx
    have HK := Lib.hid hK
    clear hm hx hK
    rw [F35_lit]
    by_cases hlt : i < s.size
    · have ci := HC.out i hlt
      have hcp : (i : Int) < s.size := by omega
      obtain ⟨c, hc⟩ : ∃ c : Nat, s[i].toNat = c := ⟨_, rfl⟩
      rw [hc] at ci
      clear hc
      go_wp2
      all_goals first
        | (go_ret2
           exact FIN.out _ 0 _ _ rfl rfl (by decide) (.inr (.inr rfl)))
        | (go_ret2
           exact FIN.out _ mx _ _ rfl rfl HMX.out (.inr (.inl rfl)))
        | (obtain ⟨m2, hm2, hm3⟩ := wrap_nat _
           exact HK.out (s.size - (i + 1)) (i + 1, m2) _ _ (by have := HM.out; omega) ⟨rfl, by show i + 1 ≤ s.size; omega, hm3, rfl⟩ (F35_at _ _ _ _ _ _ _ _ _ rfl ⟨rfl, rfl, rfl, rfl, rfl, rfl, by rw [← hm2]; rfl, rfl, rfl, rfl, trivial⟩))
        | trace_state
    · go_wp2
      go_ret2
      exact FIN.out _ x _ _ rfl rfl HX.out (.inl rfl)
  · go_enter Tryd.func35, Tryd.ntmps35
    go_wp2
    · go_ret2
      exact ⟨0, _, rfl, by decide, .inr (.inr rfl), Below.refl _ _⟩
    clear hconv
    obtain ⟨cut, hcut⟩ : ∃ c : Nat, (9223372036854775808 : Nat) = c := ⟨_, rfl⟩
    obtain ⟨mx, hmx⟩ : ∃ c : Nat, (18446744073709551615 : Nat) = c := ⟨_, rfl⟩
    have HCUT := Lib.hid hcut
    have HMX : Hid (mx < P64) := Lib.hid (by rw [← hmx]; decide)
    have HMX2 := Lib.hid hmx
    clear hcut hmx
    refine wp_loop_x (fun x : Nat × Nat => F35 b x.1 s.size cap x.2 s 2 cut mx) (PuRel s W) s.size (0, 0) ⟨rfl, Nat.zero_le _, by decide, rfl⟩ (F35_at _ _ _ _ _ _ _ _ _ rfl ⟨rfl, rfl, rfl, by rw [← HCUT.out]; rfl, by rw [← HMX2.out]; rfl, rfl, rfl, rfl, rfl, rfl, trivial⟩) ?_
    rintro m ⟨i, x⟩ u wr ⟨hm, hi, hx, rfl⟩ K hK
    simp only at hm hi hx
    have HM := Lib.hid hm
    have HX := Lib.hid hx
    have HK := Lib.hid hK
    clear hm hx hK
    rw [F35_lit]
    by_cases hlt : i < s.size
    · have ci := HC.out i hlt
      have hcp : (i : Int) < s.size := by omega
      obtain ⟨c, hc⟩ : ∃ c : Nat, s[i].toNat = c := ⟨_, rfl⟩
      rw [hc] at ci
      clear hc
      go_wp2
      all_goals first
        | (go_ret2
           exact FIN.out _ 0 _ _ rfl rfl (by decide) (.inr (.inr rfl)))
        | (go_ret2
           exact FIN.out _ mx _ _ rfl rfl HMX.out (.inr (.inl rfl)))
        | (obtain ⟨m2, hm2, hm3⟩ := wrap_nat _
           exact HK.out (s.size - (i + 1)) (i + 1, m2) _ _ (by have := HM.out; omega) ⟨rfl, by show i + 1 ≤ s.size; omega, hm3, rfl⟩ (F35_at _ _ _ _ _ _ _ _ _ rfl ⟨rfl, rfl, rfl, rfl, rfl, rfl, by rw [← hm2]; rfl, rfl, rfl, rfl, trivial⟩))
        | trace_state
    · go_wp2
      go_ret2
      exact FIN.out _ x _ _ rfl rfl HX.out (.inl rfl)
end Go.Proofs.YtblphppdfiipfaaDoor
