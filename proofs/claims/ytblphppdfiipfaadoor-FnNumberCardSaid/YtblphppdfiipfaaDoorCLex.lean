/- The tokens of a text, and NumberOf. Conditions: none. -/
import Derived.Test.YtblphppdfiipfaaDoorCToken
import Derived.Test.YtblphppdfiipfaaDoorCSpace
import Derived.Test.YtblphppdfiipfaaDoorCMinB
import Derived.Lib.ValidLaws
namespace Go.Proofs.YtblphppdfiipfaaDoor
open Go.RowKit

/-- digits, a point, an e and signs alone -/
def dec (s : ByteArray) : Prop := ∀ i, i < s.size → dcP (bt s i)
theorem lit_dec {s : ByteArray} (hs : s.size ≤ 100) (hL : Lit s) : dec s := by
  obtain ⟨h1, h2, h3, h4, h5, h6⟩ := scan_ok hs hL.1 (scanN_some hL.2.1)
  have e : s.extract 0 s.size = s := by rw [ByteArray.extract_zero_size]
  rw [e] at h5 h6
  generalize nB s 0 - 0 = q at h5 h6
  generalize exG s q = ex at h6
  intro i hi
  unfold dcP
  by_cases hq : i < q
  · rcases h5.1 i hq with h | h <;> omega
  · rcases h6 with ⟨h, _⟩ | ⟨h7, h8, r, sg, h9, h10, h11, _, h13⟩
    · omega
    · by_cases e1 : i = q
      · subst e1; omega
      · by_cases e2 : r ≤ i
        · have := h11 i e2 hi; omega
        · rcases h13 with ⟨h13, _⟩ | ⟨h13, h14, _⟩ | ⟨h13, h14, _⟩
          · omega
          · have : i = q + 1 := by omega
            subst this; omega
          · have : i = q + 1 := by omega
            subst this; omega
theorem lit_valid {s : ByteArray} (hs : s.size ≤ 100) (hL : Lit s) : Lib.validD s.data.toList = true := by
  have hd := lit_dec hs hL
  have h := Lib.validD_ascii s.data.toList.length s.data.toList fun b hb => by
    rw [List.take_length] at hb
    obtain ⟨i, hi, rfl⟩ := List.getElem_of_mem hb
    have hi' : i < s.size := by simpa using hi
    have h1 := hd i hi'
    rw [bt_eq hi'] at h1
    have h2 : s.data.toList[i] = s[i] := rfl
    rw [h2]
    unfold dcP at h1
    omega
  rw [h, List.drop_length]
  rfl
def IA (s : ByteArray) (p : Nat) (Ts : List Tok) : Prop := dec s → (Ts = [] ∧ p = 0) ∨ ∃ t r, Ts = t :: r ∧ (t.k = 2 → t.too = (s.size : Int) → Lit s ∧ t.f = numL s)
def IB (s : ByteArray) (p : Nat) (Ts : List Tok) (D : List Int) : Prop := D = [] ∧ ((p = 0 ∧ Ts = []) ∨ (p = s.size ∧ ∃ t, Ts = [t] ∧ t.k = 2 ∧ t.too = (s.size : Int) ∧ t.f = numL s))
/-- what holds at the loop's head -/
structure LI (s : ByteArray) (p : Nat) (op : Bool) (Ts : List Tok) (D : List Int) (O : List (Bool × Int)) : Prop where
  hp : p ≤ s.size
  a : op = false → Ts.length ≤ p ∧ D.length ≤ p ∧ O.length ≤ 2 * p ∧ IA s p Ts
  b : Lit s → op = false ∧ IB s p Ts D
theorem LI.nil (s : ByteArray) : LI s 0 false [] [] [] := ⟨Nat.zero_le _, fun _ => ⟨Nat.le_refl _, Nat.le_refl _, Nat.le_refl _, fun _ => .inl ⟨rfl, rfl⟩⟩, fun _ => ⟨rfl, rfl, .inl ⟨rfl, rfl⟩⟩⟩
theorem LI.space {s : ByteArray} {p p' : Nat} {op' : Bool} {Ts : List Tok} {D : List Int} {O : List (Bool × Int)} (h : LI s p false Ts D O) (h1 : p ≤ p') (h2 : p' ≤ s.size)
    (h3 : (∀ h : p < s.size, ¬ blank s[p]) → p' = p ∧ op' = false) : LI s p' op' Ts D O := by
  obtain ⟨a1, a2, a3, a4⟩ := h.a rfl
  refine ⟨h2, fun _ => ⟨by omega, by omega, by omega, fun hd => ?_⟩, fun hL => ?_⟩
  · obtain ⟨rfl, _⟩ := h3 fun h => dcP_not_blank hd h
    exact a4 hd
  · obtain ⟨_, b1, b2⟩ := h.b hL
    have hn : ∀ h : p < s.size, ¬ blank s[p] := fun h => by
      rcases b2 with ⟨rfl, _⟩ | ⟨e, _⟩
      · exact hL.1.not_blank h
      · omega
    obtain ⟨rfl, h4⟩ := h3 hn
    exact ⟨h4, b1, b2⟩
/-- where a number's text begins no blank is -/
theorem LI.nb {s : ByteArray} {p : Nat} {Ts : List Tok} {D : List Int} {O : List (Bool × Int)} (h : LI s p false Ts D O) (hL : Lit s) : ∀ h : p < s.size, ¬ blank s[p] := fun hp => by
  obtain ⟨_, b1, b2⟩ := h.b hL
  rcases b2 with ⟨rfl, _⟩ | ⟨e, _⟩
  · exact hL.1.not_blank hp
  · omega
theorem LI.tok {s : ByteArray} {p p' : Nat} {op' : Bool} {Ts T' : List Tok} {D D' : List Int} {O O' : List (Bool × Int)} (h : LI s p false Ts D O) (hps : p < s.size)
    (h4 : p < p' ∨ op' = true) (h6 : p' ≤ s.size) (h7 : O'.length ≤ O.length + 2) (h8 : D'.length ≤ D.length + 1)
    (h9 : (T' = Ts ∧ op' = true) ∨ ∃ t : Tok, T' = Ts ++ [t] ∧ (t.k = 2 → ¬ hexS s p → Stt s p ∧ scanN s p = some p' ∧ t.f = numG (s.extract p p') (nB s p - p)))
    (h10 : Stt s p → ¬ hexS s p → ∀ d, scanN s p = some d → p' = d ∧ op' = false ∧ D' = D ∧ ∃ t : Tok, T' = Ts ++ [t] ∧ t.k = 2) :
    (T' = Ts ∧ op' = true ∧ LI s p' op' Ts D' O') ∨ ∃ t : Tok, T' = Ts ++ [t] ∧ LI s p' op' (Ts ++ [{ t with fr := (p : Int), too := (p' : Int) }]) D' O' := by
  obtain ⟨a1, a2, a3, a4⟩ := h.a rfl
  have e0 : s.extract 0 s.size = s := by rw [ByteArray.extract_zero_size]
  rcases h9 with ⟨h9, ho⟩ | ⟨t, h9, h11⟩
  · refine .inl ⟨h9, ho, h6, fun h => by rw [ho] at h; exact absurd h (by simp), fun hL => ?_⟩
    exfalso
    obtain ⟨_, b1, b2⟩ := h.b hL
    rcases b2 with ⟨rfl, _⟩ | ⟨e, _⟩
    · have := (h10 hL.1 hL.2.2 _ hL.2.1).2.1
      rw [ho] at this
      exact absurd this (by simp)
    · omega
  · refine .inr ⟨t, h9, h6, fun ho => ?_, fun hL => ?_⟩
    · have hpp : p < p' := by rcases h4 with h4 | h4; exact h4; rw [ho] at h4; exact absurd h4 (by simp)
      refine ⟨by simp; omega, by omega, by omega, fun hd => .inr ?_⟩
      rcases a4 hd with ⟨rfl, rfl⟩ | ⟨t0, r, rfl, h12⟩
      · refine ⟨_, [], rfl, fun hk ht => ?_⟩
        obtain ⟨c1, c2, c3⟩ := h11 hk (dcP_not_hex hd)
        have ht : (p' : Int) = s.size := ht
        have e : p' = s.size := by omega
        subst e
        rw [e0] at c3
        exact ⟨⟨c1, c2, dcP_not_hex hd⟩, c3⟩
      · exact ⟨t0, r ++ [_], rfl, h12⟩
    · obtain ⟨_, b1, b2⟩ := h.b hL
      rcases b2 with ⟨rfl, rfl⟩ | ⟨e, _⟩
      · obtain ⟨d1, d2, d3, t1, d4, d5⟩ := h10 hL.1 hL.2.2 _ hL.2.1
        have e1 : t = t1 := by
          rw [h9] at d4
          simpa using d4
        subst e1
        obtain ⟨c1, c2, c3⟩ := h11 d5 hL.2.2
        subst d1
        rw [e0] at c3
        refine ⟨d2, by rw [d3]; exact b1, .inr ⟨rfl, _, rfl, d5, rfl, c3⟩⟩
      · omega
/-- what is known of the tokens in the end -/
def LR (s : ByteArray) (T : List Tok) : Prop := (dec s → ∀ t t2, T = [t, t2] → t.k = 2 → t.too = (s.size : Int) → Lit s ∧ t.f = numL s) ∧ (Lit s → ∃ t t2, T = [t, t2] ∧ t.k = 2 ∧ t.too = (s.size : Int) ∧ t.f = numL s)
theorem LI.fin {s : ByteArray} {Ts : List Tok} {D : List Int} {O : List (Bool × Int)} (h : LI s s.size false Ts D O) (te : Tok) : LR s (Ts ++ [te]) ∧ (Lit s → D = []) := by
  obtain ⟨a1, a2, a3, a4⟩ := h.a rfl
  refine ⟨⟨fun hd t t2 e hk ht => ?_, fun hL => ?_⟩, fun hL => (h.b hL).2.1⟩
  · rcases a4 hd with ⟨rfl, _⟩ | ⟨t0, r, rfl, h12⟩
    · simp at e
    · simp at e
      rw [← e.1] at hk ht ⊢
      exact h12 hk ht
  · obtain ⟨_, b1, b2⟩ := h.b hL
    rcases b2 with ⟨e, _⟩ | ⟨_, t, rfl, h1, h2, h3⟩
    · have := hL.1.lt
      omega
    · exact ⟨t, te, rfl, h1, h2, h3⟩
set_option maxRecDepth 100000

def sg102_11 (u : Nat → Value) : List Value := u 11 :: u 12 :: u 13 :: u 14 :: u 15 :: u 16 :: u 17 :: u 18 :: u 19 :: u 20 :: u 21 :: u 22 :: u 23 :: u 24 :: u 25 :: u 26 :: u 27 :: u 28 :: u 29 :: u 30 :: u 31 :: u 32 :: u 33 :: u 34 :: u 35 :: u 36 :: u 37 :: u 38 :: u 39 :: u 40 :: u 41 :: u 42 :: u 43 :: u 44 :: u 45 :: u 46 :: u 47 :: u 48 :: u 49 :: u 50 :: u 51 :: u 52 :: u 53 :: u 54 :: u 55 :: u 56 :: u 57 :: u 58 :: u 59 :: u 60 :: u 61 :: u 62 :: u 63 :: u 64 :: u 65 :: u 66 :: u 67 :: u 68 :: u 69 :: u 70 :: u 71 :: u 72 :: u 73 :: u 74 :: u 75 :: u 76 :: u 77 :: u 78 :: u 79 :: u 80 :: u 81 :: u 82 :: u 83 :: u 84 :: u 85 :: u 86 :: u 87 :: u 88 :: u 89 :: u 90 :: u 91 :: u 92 :: u 93 :: u 94 :: u 95 :: u 96 :: u 97 :: u 98 :: u 99 :: u 100 :: u 101 :: []
def F7 (b : Nat) (s : ByteArray)  : (Nat → Value) → Act := FG 102 [(0, .string s), (1, .bool true), (6, .pointer (some ⟨b, 0, none⟩))]
theorem F7_lit (b : Nat) (s : ByteArray) (u : Nat → Value) : F7 b  s u = { tmps := List.toArray (.string s :: .bool true :: u 2 :: u 3 :: u 4 :: u 5 :: .pointer (some ⟨b, 0, none⟩) :: u 7 :: u 8 :: u 9 :: u 10 :: sg102_11 u), defers := [] } := by kernel_rfl
theorem F7_at (b : Nat) (s : ByteArray)  {L : List Value} (hl : L.length = 102) (hn : NmOk L [(0, .string s), (1, .bool true), (6, .pointer (some ⟨b, 0, none⟩))]) : (F7 b  s fun k => (Act.mk L.toArray []).tmps.getD k undef) = { tmps := L.toArray, defers := [] } := FG_at hl hn
def F7k (b : Nat) (s : ByteArray) (l k : Bool)  : (Nat → Value) → Act := FG 102 [(0, .string s), (1, .bool true), (6, .pointer (some ⟨b, 0, none⟩)), (7, .bool l), (8, .bool k)]
theorem F7k_lit (b : Nat) (s : ByteArray) (l k : Bool) (u : Nat → Value) : F7k b  s  l k u = { tmps := List.toArray (.string s :: .bool true :: u 2 :: u 3 :: u 4 :: u 5 :: .pointer (some ⟨b, 0, none⟩) :: .bool l :: .bool k :: u 9 :: u 10 :: sg102_11 u), defers := [] } := by kernel_rfl
theorem F7k_at (b : Nat) (s : ByteArray) (l k : Bool)  {L : List Value} (hl : L.length = 102) (hn : NmOk L [(0, .string s), (1, .bool true), (6, .pointer (some ⟨b, 0, none⟩)), (7, .bool l), (8, .bool k)]) : (F7k b  s  l k fun k => (Act.mk L.toArray []).tmps.getD k undef) = { tmps := L.toArray, defers := [] } := FG_at hl hn
def F7l (b : Nat) (s : ByteArray) (l : Bool)  : (Nat → Value) → Act := FG 102 [(0, .string s), (1, .bool true), (6, .pointer (some ⟨b, 0, none⟩)), (7, .bool l)]
theorem F7l_lit (b : Nat) (s : ByteArray) (l : Bool) (u : Nat → Value) : F7l b  s  l u = { tmps := List.toArray (.string s :: .bool true :: u 2 :: u 3 :: u 4 :: u 5 :: .pointer (some ⟨b, 0, none⟩) :: .bool l :: u 8 :: u 9 :: u 10 :: sg102_11 u), defers := [] } := by kernel_rfl
theorem F7l_at (b : Nat) (s : ByteArray) (l : Bool)  {L : List Value} (hl : L.length = 102) (hn : NmOk L [(0, .string s), (1, .bool true), (6, .pointer (some ⟨b, 0, none⟩)), (7, .bool l)]) : (F7l b  s  l fun k => (Act.mk L.toArray []).tmps.getD k undef) = { tmps := L.toArray, defers := [] } := FG_at hl hn
def F7t (b : Nat) (s : ByteArray) (p n : Nat)  : (Nat → Value) → Act := FG 102 [(0, .string s), (1, .bool true), (6, .pointer (some ⟨b, 0, none⟩)), (9, .int .i64 p), (10, .int .i64 n)]
theorem F7t_lit (b : Nat) (s : ByteArray) (p n : Nat) (u : Nat → Value) : F7t b  s  p n u = { tmps := List.toArray (.string s :: .bool true :: u 2 :: u 3 :: u 4 :: u 5 :: .pointer (some ⟨b, 0, none⟩) :: u 7 :: u 8 :: .int .i64 p :: .int .i64 n :: sg102_11 u), defers := [] } := by kernel_rfl
theorem F7t_at (b : Nat) (s : ByteArray) (p n : Nat)  {L : List Value} (hl : L.length = 102) (hn : NmOk L [(0, .string s), (1, .bool true), (6, .pointer (some ⟨b, 0, none⟩)), (9, .int .i64 p), (10, .int .i64 n)]) : (F7t b  s  p n fun k => (Act.mk L.toArray []).tmps.getD k undef) = { tmps := L.toArray, defers := [] } := FG_at hl hn

/-- what lex leaves -/
def LexPost (B : Nat) (s : ByteArray) (w : World) (v : Value) (ok : Bool) (w' : World) : Prop :=
  Below B w w' ∧ ((ok = false ∧ ¬ Lit s) ∨ ∃ T, w'.ownsRow B 31 9 v T.length (tcells T) ∧ T.length ≤ 101 ∧ LR s T ∧ (Lit s → ok = true))
theorem space_ls {B b : Nat} {s : ByteArray} {w : World} {p : Nat} {Ts : List Tok} {D : List Int} {O : List (Bool × Int)} (hs : s.size ≤ 100) (hp : p ≤ s.size) (h : LS B b s w p false Ts D O) :
    Calls Tryd.prog 11 #[.pointer (some ⟨b, 0, none⟩)] w fun e w' => ∃ (l k : Bool) (p' : Nat) (op' : Bool), e = .returned (.tuple #[.bool l, .bool k]) ∧ LS B b s w' p' op' Ts D O ∧ Below B w w' ∧ p ≤ p' ∧ p' ≤ s.size ∧ ((∀ h : p < s.size, ¬ blank s[p]) → k = true ∧ p' = p ∧ op' = false) := by
  obtain ⟨o, d, q, la, co, h⟩ := h
  by_cases hb : ∀ h : p < s.size, ¬ blank s[p]
  · refine (space_none b s p o d false q la co w h.x hb).mono ?_
    rintro e w' ⟨rfl, hg⟩
    exact ⟨false, true, p, false, rfl, ⟨_, _, _, _, _, h.kept hg⟩, bel_grow hg h.bw (by simp), Nat.le_refl _, hp, fun _ => ⟨rfl, rfl, rfl⟩⟩
  · refine (space_any b s p o d false q la co w hs hp h.x).mono ?_
    rintro e w' ⟨l, k, rfl, n, p', op', _, h1, h2, hg, hx, _⟩
    exact ⟨l, k, p', op', rfl, ⟨_, _, _, _, _, h.next hg hx⟩, gb_below hg h.bb h.bw, h1, h2, fun h => absurd h hb⟩
variable {B b : Nat} {T : World → Prop} {s : ByteArray} {p : Nat} {Ts : List Tok} {D : List Int} {O : List (Bool × Int)} {w0 w : World}

set_option maxHeartbeats 2000000 in
theorem n7_13a (nb nb2 : Nat) (K KR : Act → World → Prop) (Post : Ending → World → Prop) (a : Act) (ha : (F7t b s p Ts.length fun k => a.tmps.getD k undef) = a) (d : Nat) (op : Bool) (hl : LS B b s w d op Ts D O) (hK : ∀ a', (F7 b s fun k => a'.tmps.getD k undef) = a' → K a' w) :
    Code.wp Tryd.prog (c7 [true, true, true, false, true, true, true, true, true, true, true, true, true]) (Exit.inBlock nb (Exit.then K (Exit.inBlock nb2 (Exit.then KR (bodyPost Tryd.prog Tryd.f7 Post))))) a w := by
  rw [← ha]
  clear ha
  generalize (fun k => a.tmps.getD k undef) = u
  conv => arg 2; whnf
  rw [F7t_lit, sg102_11]
  obtain ⟨o, d, q, la, co, h⟩ := hl
  obtain ⟨c0, c1, c2, c3, c4, c5, c6, _, _⟩ := h.x.cells
  obtain ⟨g, cap, rfl⟩ := slice_form h.ro
  have HK := Lib.hid hK
  clear hK h
  obtain ⟨n, hn⟩ : ∃ n, Ts.length = n := ⟨_, rfl⟩
  rw [hn] at c2 ⊢
  have g1 : decide ((n : Int) > n) = false := decide_eq_false (by omega)
  go_wp2_with fail
  exact HK.out _ (F7_at _ _ rfl ⟨rfl, rfl, rfl, trivial⟩)

set_option maxHeartbeats 2000000 in
theorem n7_13b (nb nb2 : Nat) (K KR : Act → World → Prop) (Post : Ending → World → Prop) (a : Act) (ha : (F7t b s p Ts.length fun k => a.tmps.getD k undef) = a) (d : Nat) (op : Bool) (t : Tok) (hl : LS B b s w d op (Ts ++ [t]) D O) (hK : ∀ a' w', LS B b s w' d op (Ts ++ [{ t with fr := (p : Int), too := (d : Int) }]) D O → Below B w w' → (F7 b s fun k => a'.tmps.getD k undef) = a' → K a' w') :
    Code.wp Tryd.prog (c7 [true, true, true, false, true, true, true, true, true, true, true, true, true]) (Exit.inBlock nb (Exit.then K (Exit.inBlock nb2 (Exit.then KR (bodyPost Tryd.prog Tryd.f7 Post))))) a w := by
  rw [← ha]
  clear ha
  generalize (fun k => a.tmps.getD k undef) = u
  conv => arg 2; whnf
  rw [F7t_lit, sg102_11]
  obtain ⟨o, dd, q, la, co, h⟩ := hl
  obtain ⟨g, cap, rfl, hBg, hgl⟩ := h.ro.form (by simp)
  have hh := h
  simp only [List.length_append, List.length_singleton] at hh
  obtain ⟨c0, c1, c2, c3, c4, c5, c6, _, _⟩ := hh.x.cells
  have HH := Lib.hid hh
  have HK := Lib.hid hK
  clear hK h hh
  obtain ⟨n, hn⟩ : ∃ n, Ts.length = n := ⟨_, rfl⟩
  rw [hn] at c2 ⊢
  have g1 : decide ((n : Int) < (n : Int) + 1) = true := decide_eq_true (by omega)
  refine wp_seq_h ?_
  intro K2 HK2
  go_wp2_with fail
  apply HK2.out
  clear HK2
  refine wp_cond (t := true) rfl ?_
  rw [if_pos rfl]
  refine wp_code (c := c7 [true, true, true, false, true, true, true, true, true, true, true, true, true, true, false]) (by kernel_rfl) (region14_any (t := t) (p := p) _ _ rfl rfl rfl rfl (by rw [hn]; rfl) HH.out ?_)
  intro a' w' hz hd hj hl hB
  exact HK.out a' w' hl hB (FG_self hz hd ⟨toL_getD _ _ (hj 0 (by omega)), toL_getD _ _ (hj 1 (by omega)), toL_getD _ _ (hj 6 (by omega)), trivial⟩)

set_option maxHeartbeats 2000000 in
theorem n7_11 (nb nb2 : Nat) (K KR : Act → World → Prop) (Post : Ending → World → Prop) (a : Act) (l : Bool) (ha : (F7l b s l fun k => a.tmps.getD k undef) = a) (hT : ∀ w w' : World, Below B w w' → T w → T w') (hTB : ∀ w, T w → B ≤ w.heap.size) (hD : DecSaid T) (hU : PuSaid T) (hP : PfSaid T) (hE : ∀ w, T w → PunE w) (hs : s.size ≤ 100) (hp : p < s.size) (hI : LI s p false Ts D O) (hl : LS B b s w p false Ts D O) (hB : Below B w0 w) (hw : T w) (hK : ∀ (a' : Act) (w' : World) p' op' T' D' O', (p < p' ∨ op' = true) → LI s p' op' T' D' O' → LS B b s w' p' op' T' D' O' → Below B w0 w' → (F7 b s fun k => a'.tmps.getD k undef) = a' → K a' w') :
    Code.wp Tryd.prog (c7 [true, true, true, false, true, true, true, true, true, true, true]) (Exit.inBlock nb (Exit.then K (Exit.inBlock nb2 (Exit.then KR (bodyPost Tryd.prog Tryd.f7 Post))))) a w := by
  obtain ⟨x1, x2, x3, _⟩ := hI.a rfl
  have X : TE B b T s p Ts D O l (bt s p) w w := ⟨hT, hTB, hD, hU, hP, hE, hs, hp, by omega, by omega, by omega, rfl, hl, Below.refl B w, hw⟩
  have HC := Lib.hid fun m => token_any (w0 := w) (X.drewN m)
  have HI := Lib.hid hI
  have HB := Lib.hid hB
  have HKK := Lib.hid hK
  have HP := Lib.hid hp
  clear hI hB X hD hU hP hE hw hT hTB hK hp x1 x2 x3
  rw [← ha]
  clear ha
  generalize (fun k => a.tmps.getD k undef) = u
  conv => arg 2; whnf
  rw [F7l_lit, sg102_11]
  obtain ⟨o, d, q, la, co, h⟩ := hl
  obtain ⟨c0, c1, c2, c3, c4, c5, c6, _, _⟩ := h.x.cells
  obtain ⟨g, cap, rfl⟩ := slice_form h.ro
  clear h
  obtain ⟨n, hn⟩ : ∃ n, Ts.length = n := ⟨_, rfl⟩
  rw [hn] at c2
  refine wp_seq_h ?_
  intro K2 HK2
  go_quiet (fail)
  apply HK2.out
  clear HK2
  refine wp_seq_h ?_
  intro K2 HK2
  go_wp2_with (go_at_call 12; refine (HC.out _).mono ?_; rintro e1 w1 ⟨rfl, p', op', T', D', O', hl1, hB1, h4, h5, h6, h7, h8, h9, h10⟩; have HL1 := Lib.hid hl1; have HB1 := Lib.hid hB1; have H9 := Lib.hid (HI.out.tok HP.out h4 h6 h7 h8 h9 h10); have H4 := Lib.hid h4; clear hl1 hB1 h4 h5 h6 h7 h8 h9 h10)
  apply HK2.out
  clear HK2
  rw [← hn]
  rcases H9.out with ⟨e9, ho, hI'⟩ | ⟨t, e9, hI'⟩
  · have hl1 := HL1.out
    rw [e9] at hl1
    exact wp_code (c := c7 [true, true, true, false, true, true, true, true, true, true, true, true, true]) (by kernel_rfl) (n7_13a nb nb2 K KR Post _ (F7t_at _ _ _ _ rfl ⟨rfl, rfl, rfl, rfl, rfl, trivial⟩) p' op' hl1 fun a' ha' => HKK.out a' _ p' op' _ _ _ H4.out hI' hl1 (HB.out.trans HB1.out) ha')
  · have hl1 := HL1.out
    rw [e9] at hl1
    exact wp_code (c := c7 [true, true, true, false, true, true, true, true, true, true, true, true, true]) (by kernel_rfl) (n7_13b nb nb2 K KR Post _ (F7t_at _ _ _ _ rfl ⟨rfl, rfl, rfl, rfl, rfl, trivial⟩) p' op' t hl1 fun a' w' hl' hb' ha' => HKK.out a' _ p' op' _ _ _ H4.out hI' hl' ((HB.out.trans HB1.out).trans hb') ha')

set_option maxHeartbeats 2000000 in
theorem n7_10 (nb nb2 : Nat) (K KR : Act → World → Prop) (Post : Ending → World → Prop) (a : Act) (K3 : Act → World → Prop) (ha : (F7 b s fun k => a.tmps.getD k undef) = a) (te : Tok) (hT1 : Ts.length ≤ 100) (hl : LS B b s w s.size false (Ts ++ [te]) D O) (hI : LR s (Ts ++ [te]) ∧ (Lit s → D = [])) (hB : Below B w0 w) (hR : ∀ v ok w', LexPost B s w0 v ok w' → Post (.returned (.tuple #[v, .bool ok])) w') :
    Code.wp Tryd.prog (c7 [true, true, true, false, true, true, true, true, true, true, false, true, false, true]) (Exit.then K3 (Exit.inBlock nb (Exit.then K (Exit.inBlock nb2 (Exit.then KR (bodyPost Tryd.prog Tryd.f7 Post)))))) a w := by
  rw [← ha]
  clear ha
  generalize (fun k => a.tmps.getD k undef) = u
  conv => arg 2; whnf
  rw [F7_lit, sg102_11]
  obtain ⟨o, d, q, la, co, h⟩ := hl
  obtain ⟨c0, c1, c2, c3, c4, c5, c6, _, _⟩ := h.x.cells
  obtain ⟨g, cap, rfl⟩ := slice_form h.rd
  have hlen : (Ts ++ [te]).length ≤ 101 := by simp; omega
  by_cases hD : D.length = 0
  · have g1 : ((D.length : Int) == 0) = true := beq_iff_eq.2 (by omega)
    have HR := Lib.hid fun m => hR o true (w.drewN m) ⟨hB.trans (bel_drewN B w m), .inr ⟨_, (h.kept (gb_drewN (World.grownBy.refl _ _) m)).ro, hlen, hI.1, fun _ => rfl⟩⟩
    clear hR hI hB h hlen hD
    go_wp2
    go_quiet (fail)
    go_wp2
    exact HR.out _
  · have g1 : ((D.length : Int) == 0) = false := beq_false_of_ne (by omega)
    have HR := Lib.hid fun m => hR o false (w.drewN m) ⟨hB.trans (bel_drewN B w m), .inr ⟨_, (h.kept (gb_drewN (World.grownBy.refl _ _) m)).ro, hlen, hI.1, fun hL => absurd (by rw [hI.2 hL]; rfl) hD⟩⟩
    clear hR hI hB h hlen hD
    go_wp2
    go_quiet (fail)
    go_wp2
    exact HR.out _

set_option maxHeartbeats 4000000 in
theorem n7_9 (nb nb2 : Nat) (K KR : Act → World → Prop) (Post : Ending → World → Prop) (a : Act) (K3 : Act → World → Prop) (l : Bool) (ha : (F7l b s l fun k => a.tmps.getD k undef) = a) (hI : LI s s.size false Ts D O) (hs : s.size ≤ 100) (hl : LS B b s w s.size false Ts D O) (hB : Below B w0 w) (hR : ∀ v ok w', LexPost B s w0 v ok w' → Post (.returned (.tuple #[v, .bool ok])) w') :
    Code.wp Tryd.prog (c7 [true, true, true, false, true, true, true, true, true, true, false, true, false]) (Exit.then K3 (Exit.inBlock nb (Exit.then K (Exit.inBlock nb2 (Exit.then KR (bodyPost Tryd.prog Tryd.f7 Post)))))) a w := by
  rw [← ha]
  clear ha
  generalize (fun k => a.tmps.getD k undef) = u
  conv => arg 2; whnf
  rw [F7l_lit, sg102_11]
  obtain ⟨o, d, q, la, co, h⟩ := hl
  obtain ⟨c0, c1, c2, c3, c4, c5, c6, _, _⟩ := h.x.cells
  obtain ⟨x1, x2, x3, _⟩ := hI.a rfl
  have f2 := h.x.free 2
  obtain ⟨i0, hi, hz0, hz1, hz2⟩ := info_parts info31
  obtain ⟨p1, p2, p3, p4, p5⟩ := LV.pusho h ⟨0, .empty, 0, l, false, false, false, 0, 0⟩
  have P1 := Lib.hid p1
  have P2 := Lib.hid p2
  have P3 := Lib.hid p3
  have P4 := Lib.hid p4
  have P5 := Lib.hid p5
  have HI := Lib.hid hI
  have HB := Lib.hid hB
  have HR := Lib.hid hR
  have hT1 : Ts.length ≤ 100 := by omega
  clear p1 p2 p3 p4 p5 h hI hB hR x1 x2 x3
  refine wp_seq_h ?_
  intro K2 HK2
  go_wp2_with (at_builtin; refine wpList_append_lies _ rfl _ _ _ rfl B 31 i0 _ 9 56 Tryd.underlying27 hi hz0 hz1 hz2 rfl (by omega) o Ts.length _ rfl P1.out ⟨w.heap.size, 0, none⟩ 1 1 _ rfl rfl P2.out (by simp [Value.oneCell']) (by omega) (by unfold maxLen; omega) (by omega) P3.out (w.heap.size + 1) (by simp) ?_; intro g2 cap2 w1 hown1 hgrow hat hlt; have HO1 := Lib.hid hown1; have HG1 := Lib.hid hgrow; have HA1 := Lib.hid hat; have hx2 := (P4.out _ hgrow).cells.2.2.1; have hf2 := (P4.out _ hgrow).free 2; clear hown1 hgrow hat hlt)
  obtain ⟨⟨V, hV, hL⟩, hB2⟩ := P5.out _ _ _ HO1.out HG1.out HA1.out
  exact HK2.out _ _ (wp_code (c := c7 [true, true, true, false, true, true, true, true, true, true, false, true, false, true]) (by kernel_rfl) (n7_10 nb nb2 K KR Post _ K3 (F7_at _ _ rfl ⟨rfl, rfl, rfl, trivial⟩) _ hT1 ⟨_, _, _, _, _, hL⟩ (HI.out.fin _) (HB.out.trans hB2) HR.out))

set_option maxHeartbeats 2000000 in
theorem n7_8 (nb nb2 : Nat) (K KR : Act → World → Prop) (Post : Ending → World → Prop) (a : Act) (l : Bool) (ha : (F7l b s l fun k => a.tmps.getD k undef) = a) (hT : ∀ w w' : World, Below B w w' → T w → T w') (hTB : ∀ w, T w → B ≤ w.heap.size) (hD : DecSaid T) (hU : PuSaid T) (hP : PfSaid T) (hE : ∀ w, T w → PunE w) (hs : s.size ≤ 100) (hI : LI s p false Ts D O) (hl : LS B b s w p false Ts D O) (hB : Below B w0 w) (hw : T w) (hK : ∀ (a' : Act) (w' : World) p' op' T' D' O', (p < p' ∨ op' = true) → LI s p' op' T' D' O' → LS B b s w' p' op' T' D' O' → Below B w0 w' → (F7 b s fun k => a'.tmps.getD k undef) = a' → K a' w') (hR : ∀ v ok w', LexPost B s w0 v ok w' → Post (.returned (.tuple #[v, .bool ok])) w') :
    Code.wp Tryd.prog (c7 [true, true, true, false, true, true, true, true, true, true]) (Exit.inBlock nb (Exit.then K (Exit.inBlock nb2 (Exit.then KR (bodyPost Tryd.prog Tryd.f7 Post))))) a w := by
  have H9 := Lib.hid fun (hp : p = s.size) (K3 : Act → World → Prop) (a' : Act) (ha' : (F7l b s l fun k => a'.tmps.getD k undef) = a') => n7_9 (w := w) (w0 := w0) (Ts := Ts) (D := D) (O := O) nb nb2 K KR Post a' K3 l ha' (by rw [← hp]; exact hI) hs (by rw [← hp]; exact hl) hB hR
  have H11 := Lib.hid fun (hp : p < s.size) (a' : Act) (ha' : (F7l b s l fun k => a'.tmps.getD k undef) = a') => n7_11 nb nb2 K KR Post a' l ha' hT hTB hD hU hP hE hs hp hI hl hB hw hK
  have hps := hI.hp
  clear hI hB hD hU hP hE hw hT hTB hK hR
  rw [← ha]
  clear ha
  generalize (fun k => a.tmps.getD k undef) = u
  conv => arg 2; whnf
  rw [F7l_lit, sg102_11]
  obtain ⟨o, d, q, la, co, h⟩ := hl
  obtain ⟨c0, c1, c2, c3, c4, c5, c6, _, _⟩ := h.x.cells
  clear h
  refine wp_seq_h ?_
  intro K3 HK3
  refine wp_seq_h ?_
  intro K2 HK2
  by_cases hp : p = s.size
  · have g1 : ((p : Int) == s.size) = true := by simp; omega
    have HP := Lib.hid hp
    clear hp
    go_wp2_with fail
    apply HK2.out
    clear HK2
    refine wp_cond (t := true) rfl ?_
    rw [if_pos rfl]
    exact wp_code (c := c7 [true, true, true, false, true, true, true, true, true, true, false, true, false]) (by kernel_rfl) (H9.out HP.out _ _ (F7l_at _ _ _ rfl ⟨rfl, rfl, rfl, rfl, trivial⟩))
  · have g1 : ((p : Int) == s.size) = false := by simp; omega
    have HP : Hid (p < s.size) := Lib.hid (by omega)
    clear hp
    go_wp2_with fail
    apply HK2.out
    clear HK2
    refine wp_cond (t := false) rfl ?_
    rw [if_neg (by decide)]
    go_wp2_with fail
    exact HK3.out _ _ (wp_code (c := c7 [true, true, true, false, true, true, true, true, true, true, true]) (by kernel_rfl) (H11.out HP.out _ (F7l_at _ _ _ rfl ⟨rfl, rfl, rfl, rfl, trivial⟩)))

set_option maxHeartbeats 2000000 in
theorem n7_6 (nb nb2 : Nat) (K KR : Act → World → Prop) (Post : Ending → World → Prop) (a : Act) (l k op : Bool) (ha : (F7k b s l k fun k => a.tmps.getD k undef) = a) (hT : ∀ w w' : World, Below B w w' → T w → T w') (hTB : ∀ w, T w → B ≤ w.heap.size) (hD : DecSaid T) (hU : PuSaid T) (hP : PfSaid T) (hE : ∀ w, T w → PunE w) (hs : s.size ≤ 100) (hI : LI s p op Ts D O) (hk : Lit s → k = true) (hl : LS B b s w p op Ts D O) (hB : Below B w0 w) (hw : T w) (hK : ∀ (a' : Act) (w' : World) p' op' T' D' O', (p < p' ∨ op' = true) → LI s p' op' T' D' O' → LS B b s w' p' op' T' D' O' → Below B w0 w' → (F7 b s fun k => a'.tmps.getD k undef) = a' → K a' w') (hR : ∀ v ok w', LexPost B s w0 v ok w' → Post (.returned (.tuple #[v, .bool ok])) w') :
    Code.wp Tryd.prog (c7 [true, true, true, false, true, true, true, true, true]) (Exit.inBlock nb (Exit.then K (Exit.inBlock nb2 (Exit.then KR (bodyPost Tryd.prog Tryd.f7 Post))))) a w := by
  have H8 := Lib.hid fun (ho : op = false) (m : Nat) (a' : Act) (ha' : (F7l b s l fun k => a'.tmps.getD k undef) = a') => n7_8 (w := w.drewN m) nb nb2 K KR Post a' l ha' hT hTB hD hU hP hE hs (by rw [← ho]; exact hI) ((by rw [← ho]; exact hl : LS B b s w p false Ts D O).gbn (gb_drewN (World.grownBy.refl _ _) m)) (hB.trans (bel_drewN B w m)) (hT _ _ (bel_drewN B w m) hw) hK hR
  have HR := Lib.hid fun (h : k = false ∨ op = true) (m : Nat) => hR (.slice none 0 0) false (w.drewN m) ⟨hB.trans (bel_drewN B w m), .inl ⟨rfl, fun hL => by
    rcases h with h | h
    · rw [hk hL] at h; exact absurd h (by simp)
    · rw [(hI.b hL).1] at h; exact absurd h (by simp)⟩⟩
  clear hI hB hD hU hP hE hw hT hTB hK hR hk
  rw [← ha]
  clear ha
  generalize (fun k => a.tmps.getD k undef) = u
  conv => arg 2; whnf
  rw [F7k_lit, sg102_11]
  obtain ⟨o, d, q, la, co, h⟩ := hl
  obtain ⟨c0, c1, c2, c3, c4, c5, c6, _, _⟩ := h.x.cells
  clear h
  refine wp_seq_h ?_
  intro K3 HK3
  cases k
  · have HRb := Lib.hid (HR.out (.inl rfl))
    clear HR H8
    go_wp2_with fail
    exact HRb.out 0
  · cases op
    · have H8b := Lib.hid (H8.out rfl)
      clear H8 HR
      go_wp2_with fail
      exact HK3.out _ _ (wp_code (c := c7 [true, true, true, false, true, true, true, true, true, true]) (by kernel_rfl) (H8b.out 0 _ (F7l_at _ _ _ rfl ⟨rfl, rfl, rfl, rfl, trivial⟩)))
    · have HRb := Lib.hid (HR.out (.inr rfl))
      clear HR H8
      go_wp2_with fail
      exact HRb.out 0

set_option maxHeartbeats 2000000 in
theorem n7_5 (nb nb2 : Nat) (K KR : Act → World → Prop) (Post : Ending → World → Prop) (a : Act) (ha : (F7 b s fun k => a.tmps.getD k undef) = a) (hT : ∀ w w' : World, Below B w w' → T w → T w') (hTB : ∀ w, T w → B ≤ w.heap.size) (hD : DecSaid T) (hU : PuSaid T) (hP : PfSaid T) (hE : ∀ w, T w → PunE w) (hs : s.size ≤ 100) (hI : LI s p false Ts D O) (hl : LS B b s w p false Ts D O) (hB : Below B w0 w) (hw : T w) (hK : ∀ (a' : Act) (w' : World) p' op' T' D' O', (p < p' ∨ op' = true) → LI s p' op' T' D' O' → LS B b s w' p' op' T' D' O' → Below B w0 w' → (F7 b s fun k => a'.tmps.getD k undef) = a' → K a' w') (hR : ∀ v ok w', LexPost B s w0 v ok w' → Post (.returned (.tuple #[v, .bool ok])) w') :
    Code.wp Tryd.prog (c7 [true, true, true, false, true, true, true, true]) (Exit.inBlock nb (Exit.then K (Exit.inBlock nb2 (Exit.then KR (bodyPost Tryd.prog Tryd.f7 Post))))) a w := by
  have HC := Lib.hid (space_ls hs hI.hp hl)
  have H6 := Lib.hid fun (l k : Bool) (p' : Nat) (op' : Bool) (w1 : World) (hl1 : LS B b s w1 p' op' Ts D O) (hB1 : Below B w w1) (h1 : p ≤ p') (h2 : p' ≤ s.size) (h3 : (∀ h : p < s.size, ¬ blank s[p]) → k = true ∧ p' = p ∧ op' = false) (a' : Act) (ha' : (F7k b s l k fun k => a'.tmps.getD k undef) = a') =>
    n7_6 (w := w1) nb nb2 K KR Post a' l k op' ha' hT hTB hD hU hP hE hs (hI.space h1 h2 fun h => (h3 h).2) (fun hL => (h3 (hI.nb hL)).1) hl1 (hB.trans hB1) (hT _ _ hB1 hw) (fun a'' w'' p'' op'' T'' D'' O'' e1 => hK a'' w'' p'' op'' T'' D'' O'' (e1.imp (fun h => by omega) id)) hR
  clear hI hB hD hU hP hE hw hT hTB hK hR
  rw [← ha]
  clear ha
  generalize (fun k => a.tmps.getD k undef) = u
  conv => arg 2; whnf
  rw [F7_lit, sg102_11]
  obtain ⟨o, d, q, la, co, h⟩ := hl
  obtain ⟨c0, c1, c2, c3, c4, c5, c6, _, _⟩ := h.x.cells
  clear h
  refine wp_seq_h ?_
  intro K2 HK2
  go_wp2_with (go_at_call 11; refine HC.out.mono ?_; rintro e1 w1 ⟨l, k, p', op', rfl, hl1, hB1, h1, h2, h3⟩; have H := Lib.hid (H6.out l k p' op' w1 hl1 hB1 h1 h2 h3); clear hl1 hB1 h1 h2 h3)
  exact HK2.out _ _ (wp_code (c := c7 [true, true, true, false, true, true, true, true, true]) (by kernel_rfl) (H.out _ (F7k_at _ _ _ _ rfl ⟨rfl, rfl, rfl, rfl, rfl, trivial⟩)))
set_option maxRecDepth 100000

def VaSaid (T : World → Prop) (s : ByteArray) : Prop := ∀ w, T w → Calls Tryd.prog 10 #[.string s] w fun e w' => e = .returned (.bool (Lib.validD s.data.toList)) ∧ Below w.heap.size w w'
def LxRel (B b : Nat) (s : ByteArray) (w0 : World) (n : Nat) (_ : Unit) (wr : World) : Prop :=
  ∃ (p : Nat) (op : Bool) (Ts : List Tok) (D : List Int) (O : List (Bool × Int)), n = (if op = true then 0 else s.size + 1 - p) ∧ LI s p op Ts D O ∧ LS B b s wr p op Ts D O ∧ Below B w0 wr
/-- the lexer's state at the start -/
theorem LS.start {B : Nat} {w : World} (hB : B ≤ w.heap.size) (s : ByteArray) :
    LS B w.heap.size s (w.alloc (.cells #[.string s, .int .i64 0, .slice none 0 0, .slice none 0 0, .bool false, .bool true, .slice none 0 0, .bool false, .bool false] 39)) 0 false [] [] [] :=
  ⟨.slice none 0 0, .slice none 0 0, .slice none 0 0, false, false, heap_alloc_new w _, World.ownsRow_nil _ B 31 9, World.ownsRow_nil _ B 3 1, World.ownsRow_nil _ B 76 2,
    ⟨by simp [Value.ownBlock], by simp [Value.ownBlock], by simp [Value.ownBlock], by simp [Value.ownBlock], by simp [Value.ownBlock], by simp [Value.ownBlock]⟩, hB, by simp; omega⟩

set_option maxHeartbeats 2000000 in
theorem lex_any (B : Nat) (T : World → Prop) (hT : ∀ w w' : World, Below B w w' → T w → T w') (hTB : ∀ w, T w → B ≤ w.heap.size) (hD : DecSaid T) (hU : PuSaid T) (hP : PfSaid T) (hE : ∀ w, T w → PunE w) (s : ByteArray) (hV : VaSaid T s) (hs : s.size ≤ 100) (w : World) (hw : T w) :
    Calls Tryd.prog 7 #[.string s, .bool true] w fun e w' => ∃ v ok, e = .returned (.tuple #[v, .bool ok]) ∧ LexPost B s w v ok w' := by
  have HC := Lib.hid (hV w hw)
  obtain ⟨vb, hvb⟩ : ∃ x, Lib.validD s.data.toList = x := ⟨_, rfl⟩
  rw [hvb] at HC
  have hbel : ∀ w', Below w.heap.size w w' → Below B w w' := fun w' h => h.mono (hTB w hw)
  have H5 := Lib.hid fun (nb nb2 : Nat) (K KR : Act → World → Prop) (Post : Ending → World → Prop) (a : Act) (b p : Nat) (Ts : List Tok) (D : List Int) (O : List (Bool × Int)) (wr : World) (ha : (F7 b s fun k => a.tmps.getD k undef) = a) (hI : LI s p false Ts D O) (hl : LS B b s wr p false Ts D O) (hB : Below B w wr) =>
    n7_5 (w := wr) (w0 := w) nb nb2 K KR Post a ha hT hTB hD hU hP hE hs hI hl hB (hT _ _ hB hw)
  have HB := Lib.hid hbel
  have HW := Lib.hid fun w' (h : Below w.heap.size w w') => hTB w' (hT _ _ (hbel _ h) hw)
  clear hV hT hTB hD hU hP hE hw hbel
  cases vb
  · have hn : Hid (¬ Lit s) := Lib.hid fun hL => by rw [lit_valid hs hL] at hvb; exact absurd hvb (by simp)
    clear hvb
    go_enter Tryd.func7, Tryd.ntmps7
    go_wp2_with (go_at_call 10; refine HC.out.mono ?_; rintro e w1 ⟨rfl, hb⟩; have HB1 := Lib.hid hb; clear hb)
    go_ret2
    exact ⟨_, _, rfl, HB.out _ HB1.out, .inl ⟨rfl, hn.out⟩⟩
  · clear hvb
    go_enter Tryd.func7, Tryd.ntmps7
    refine wp_seq_h ?_
    intro K0 HK0
    go_wp2_with fail
    apply HK0.out
    clear HK0
    refine wp_seq_h ?_
    intro K1 HK1
    go_wp2_with (go_at_call 10; refine HC.out.mono ?_; rintro e w1 ⟨rfl, hb⟩; have HB1 := Lib.hid hb; clear hb)
    apply HK1.out
    clear HK1
    refine wp_seq_h ?_
    intro K3 HK3
    go_wp2_with fail
    apply HK3.out
    clear HK3
    have hS := LS.start (HW.out _ HB1.out) s
    have hB2 : Below B w (w1.alloc (.cells #[.string s, .int .i64 0, .slice none 0 0, .slice none 0 0, .bool false, .bool true, .slice none 0 0, .bool false, .bool false] 39)) := (HB.out _ HB1.out).alloc (HW.out _ HB1.out) _
    revert hS hB2
    generalize w1.alloc (.cells #[.string s, .int .i64 0, .slice none 0 0, .slice none 0 0, .bool false, .bool true, .slice none 0 0, .bool false, .bool false] 39) = W
    generalize w1.heap.size = b
    intro hS hB2
    refine wp_seq_h ?_
    intro KR HKR
    refine wp_block ?_
    refine wp_loop_x (fun _ : Unit => F7 b s) (LxRel B b s w) (s.size + 1) () ⟨0, false, [], [], [], rfl, LI.nil s, hS, hB2⟩ (F7_at _ _ rfl ⟨rfl, rfl, rfl, trivial⟩) ?_
    clear hS hB2 HB1 HC
    rintro n x u wr ⟨p, op, Ts, D, O, hn, hI, hl, hB⟩ K hK
    have HI := Lib.hid hI
    have HL := Lib.hid hl
    have HBB := Lib.hid hB
    have HK := Lib.hid hK
    have HN := Lib.hid hn
    clear hI hB hK hn
    obtain ⟨o, d, q, la, co, h⟩ := hl
    obtain ⟨c0, c1, c2, c3, c4, c5, c6, _, _⟩ := h.x.cells
    clear h
    rw [F7_lit, sg102_11]
    refine wp_seq_h ?_
    intro KB HKB
    cases op
    · go_wp2_with fail
      apply HKB.out
      clear HKB
      refine wp_block ?_
      refine wp_code (c := c7 [true, true, true, false, true, true, true, true]) (by kernel_rfl) (H5.out _ _ K KR _ _ b p Ts D O wr (F7_at _ _ rfl ⟨rfl, rfl, rfl, trivial⟩) HI.out HL.out HBB.out ?_ ?_)
      · intro a' w' p' op' T' D' O' h4 hI' hl' hB' ha'
        refine HK.out _ () _ _ ?_ ⟨p', op', T', D', O', rfl, hI', hl', hB'⟩ ha'
        have h1 := HN.out
        have h2 := HI.out.hp
        have h3 := hI'.hp
        rw [if_neg (by simp)] at h1
        rcases h4 with h4 | h4
        · split <;> omega
        · rw [if_pos h4]; omega
      · intro v ok w' h
        exact ⟨_, _, rfl, h⟩
    · have hn : Hid (¬ Lit s) := Lib.hid fun hL => by have := (HI.out.b hL).1; exact absurd this (by simp)
      go_wp2_with fail
      apply HKR.out
      clear HKR
      go_wp2_with fail
      go_ret2
      exact ⟨_, _, rfl, HBB.out, .inl ⟨rfl, hn.out⟩⟩

/-- what NumberOf answers -/
def NofPost (B : Nat) (s : ByteArray) (w : World) (e : Ending) (w' : World) : Prop :=
  ∃ (f : Nat) (ok : Bool), e = .returned (.tuple #[.float .f64 f, .bool ok]) ∧ Below B w w' ∧ (ok = true → dec s → Lit s ∧ f = numL s) ∧ (Lit s → ok = true ∧ f = numL s)

set_option maxHeartbeats 2000000 in
theorem nof_any (B : Nat) (s : ByteArray) (w : World) (hC : Calls Tryd.prog 7 #[.string s, .bool true] w fun e w' => ∃ v ok, e = .returned (.tuple #[v, .bool ok]) ∧ LexPost B s w v ok w') :
    Calls Tryd.prog 4 #[.string s] w (NofPost B s w) := by
  have HC := Lib.hid hC
  clear hC
  go_enter Tryd.func4, Tryd.ntmps4
  refine wp_seq_h ?_
  intro K0 HK0
  go_wp2_with fail
  apply HK0.out
  clear HK0
  refine wp_seq_h ?_
  intro K1 HK1
  go_wp2_with (go_at_call 7; refine HC.out.mono ?_; rintro e w1 ⟨v, ok, rfl, hB, h⟩; have HB := Lib.hid hB; have H := Lib.hid h; clear hB h)
  apply HK1.out
  clear HK1 HC
  have hno : ∀ f, ¬ Lit s → NofPost B s w (.returned (.tuple #[.float .f64 f, .bool false])) w1 := fun f hn => ⟨f, false, rfl, HB.out, fun h => absurd h (by simp), fun h => absurd h hn⟩
  have HNO := Lib.hid hno
  clear hno
  cases ok
  · have hn : Hid (¬ Lit s) := Lib.hid (by
      rcases H.out with ⟨_, h⟩ | ⟨T, _, _, _, h⟩
      · exact h
      · exact fun hL => absurd (h hL) (by simp))
    clear H
    go_wp2_with fail
    go_ret2
    exact HNO.out _ hn.out
  · obtain ⟨T, hr, hl, hLR⟩ : ∃ T, w1.ownsRow B 31 9 v T.length (tcells T) ∧ T.length ≤ 101 ∧ LR s T := by
      rcases H.out with ⟨h, _⟩ | ⟨T, h1, h2, h3, _⟩
      · exact absurd h (by simp)
      · exact ⟨T, h1, h2, h3⟩
    clear H
    have HLR := Lib.hid hLR
    clear hLR
    by_cases h2 : T.length = 2
    · obtain ⟨g, cap, rfl, hBg, hgl⟩ := hr.form (by omega)
      obtain ⟨t, t2, rfl⟩ : ∃ t t2, T = [t, t2] := by
        match T, h2 with
        | [t, t2], _ => exact ⟨t, t2, rfl⟩
      have hcell : ∀ j, j < 9 → w1.cell? ⟨g, j, none⟩ = t.cells[j]? := by
        intro j hj
        have e : (tcells [t, t2])[j]? = t.cells[j]? := by
          show (t.cells ++ (t2.cells ++ []))[j]? = _
          rw [List.getElem?_append_left (by simpa [Tok.cells] using hj)]
        have hs : ∃ u, t.cells[j]? = some u := ⟨t.cells[j]'(by simpa [Tok.cells] using hj), List.getElem?_eq_getElem _⟩
        obtain ⟨u, hu⟩ := hs
        rw [hu] at e ⊢
        have := hr.cells (g := g) rfl _ _ e
        rwa [add_zero_at] at this
      have k0 := hcell 0 (by omega)
      have k2 := hcell 2 (by omega)
      have k8 := hcell 8 (by omega)
      obtain ⟨tk, tt, tf, tl, th, tta, te, tfr, tto⟩ := t
      simp only [Tok.cells, List.getElem?_cons_zero, List.getElem?_cons_succ] at k0 k2 k8
      clear hcell hr hl hgl
      have hLR : Hid ((dec s → tk = 2 → tto = (s.size : Int) → Lit s ∧ tf = numL s) ∧ (Lit s → tk = 2 ∧ tto = (s.size : Int) ∧ tf = numL s)) := Lib.hid ⟨fun hd => HLR.out.1 hd _ _ rfl, fun hL => by
        obtain ⟨a, b, e, h⟩ := HLR.out.2 hL
        simp only [List.cons.injEq] at e
        rw [← e.1] at h
        exact h⟩
      clear HLR
      simp only [List.length_cons, List.length_nil]
      have g0 : (((0 + 1 + 1 : Nat) : Int) != 2) = false := by decide
      by_cases hk : tk = 2
      · have g1 : (tk != 2) = false := by simp [hk]
        by_cases ht : tto = (s.size : Int)
        · have g2 : (tto != (s.size : Int)) = false := by simp [ht]
          have HK2 := Lib.hid hk
          have HT2 := Lib.hid ht
          clear hk ht h2
          go_wp2_with fail
          go_ret2
          exact ⟨tf, true, rfl, HB.out, fun _ hd => hLR.out.1 hd HK2.out HT2.out, fun hL => ⟨rfl, (hLR.out.2 hL).2.2⟩⟩
        · have g2 : (tto != (s.size : Int)) = true := by simp [ht]
          have hn : Hid (¬ Lit s) := Lib.hid fun hL => ht (hLR.out.2 hL).2.1
          clear hk ht h2
          go_wp2_with fail
          go_ret2
          exact HNO.out _ hn.out
      · have g1 : (tk != 2) = true := by simp [hk]
        have hn : Hid (¬ Lit s) := Lib.hid fun hL => hk (hLR.out.2 hL).1
        clear hk h2
        go_wp2_with fail
        go_ret2
        exact HNO.out _ hn.out
    · obtain ⟨g, cap, rfl⟩ := slice_form hr
      have hn : Hid (¬ Lit s) := Lib.hid fun hL => by
        obtain ⟨a, b, e, _⟩ := HLR.out.2 hL
        rw [e] at h2
        exact h2 rfl
      obtain ⟨n, hn2⟩ : ∃ n, T.length = n := ⟨_, rfl⟩
      have g0 : ((n : Int) != 2) = true := by simp; omega
      rw [hn2]
      clear hr hl HLR h2 hn2
      go_wp2_with fail
      go_ret2
      exact HNO.out _ hn.out
end Go.Proofs.YtblphppdfiipfaaDoor
