/- The lexer and its three rows, and what appending to them leaves. Conditions: none. -/
import Derived.Test.YtblphppdfiipfaaDoorCEscape
import Derived.Deep.AppendLies
import Derived.Lib.AppendStr
import Derived.Deep.DrawnRows
namespace Go.Proofs.YtblphppdfiipfaaDoor
open Go.RowKit
set_option maxRecDepth 100000

theorem run_store_float (P : Program) (w : World) (a : Addr) (m : Mode) (k : FloatKind) (n : Nat) : (store a (.float k n) m).run P w = stored P w a (.float k n) m := run_store P w a _ m rfl
attribute [local go_sem] run_store_float

structure Tok where
  k : Int
  t : ByteArray
  f : Nat
  l : Bool
  h : Bool
  ta : Bool
  e : Bool
  fr : Int
  too : Int
def Tok.cells (x : Tok) : List Value := [.int .i64 x.k, .string x.t, .float .f64 x.f, .bool x.l, .bool x.h, .bool x.ta, .bool x.e, .int .i64 x.fr, .int .i64 x.too]
def tcells (l : List Tok) : List Value := l.flatMap Tok.cells
def dcs (l : List Int) : List Value := l.map (Value.int .i64)
def bcells (l : List (Bool × Int)) : List Value := l.flatMap fun x => [.bool x.1, .int .i64 x.2]

/-- the blocks of the three rows are not the lexer's, and not one another's -/
structure Apart (o d q : Value) (b : Nat) : Prop where
  ob : o.ownBlock ≠ some b
  db : d.ownBlock ≠ some b
  qb : q.ownBlock ≠ some b
  od : ∀ g, o.ownBlock = some g → d.ownBlock ≠ some g
  oq : ∀ g, o.ownBlock = some g → q.ownBlock ≠ some g
  dq : ∀ g, d.ownBlock = some g → q.ownBlock ≠ some g

/-- the lexer's state, with the slices' values -/
structure LV (B b : Nat) (s : ByteArray) (w : World) (p : Nat) (op : Bool) (T : List Tok) (D : List Int) (O : List (Bool × Int)) (o d q : Value) (la co : Bool) : Prop where
  x : LX w b s p o d op q la co
  ro : w.ownsRow B 31 9 o T.length (tcells T)
  rd : w.ownsRow B 3 1 d D.length (dcs D)
  rq : w.ownsRow B 76 2 q O.length (bcells O)
  ap : Apart o d q b
  bb : B ≤ b
  bw : B ≤ w.heap.size
/-- the lexer's state -/
def LS (B b : Nat) (s : ByteArray) (w : World) (p : Nat) (op : Bool) (T : List Tok) (D : List Int) (O : List (Bool × Int)) : Prop := ∃ o d q la co, LV B b s w p op T D O o d q la co

theorem ne_own {v : Value} {b : Nat} (h : v.ownBlock ≠ some b) : v.ownBlock = none ∨ v.ownBlock ≠ some b := .inr h
/-- the lexer's own cells have changed, nothing else of it -/
theorem LV.next {B b : Nat} {s : ByteArray} {w w' : World} {p p' : Nat} {op op' : Bool} {T : List Tok} {D : List Int} {O : List (Bool × Int)} {o d q : Value} {la co la' co' : Bool}
    (h : LV B b s w p op T D O o d q la co) (hg : w.grownBy w' (some b)) (hx : LX w' b s p' o d op' q la' co') : LV B b s w' p' op' T D O o d q la' co' :=
  ⟨hx, h.ro.kept hg (ne_own h.ap.ob), h.rd.kept hg (ne_own h.ap.db), h.rq.kept hg (ne_own h.ap.qb), h.ap, h.bb, Nat.le_trans h.bw hg.size⟩
theorem LV.kept {B b : Nat} {s : ByteArray} {w w' : World} {p : Nat} {op : Bool} {T : List Tok} {D : List Int} {O : List (Bool × Int)} {o d q : Value} {la co : Bool}
    (h : LV B b s w p op T D O o d q la co) (hg : w.grownBy w' none) : LV B b s w' p op T D O o d q la co := by
  have hx : LX w' b s p o d op q la co := (hg.block b (lt_of_block h.x) (by simp)).trans h.x
  have key : ∀ v : Value, v.ownBlock = none ∨ v.ownBlock ≠ none := fun v => by cases v.ownBlock <;> simp
  exact ⟨hx, h.ro.kept hg (key _), h.rd.kept hg (key _), h.rq.kept hg (key _), h.ap, h.bb, Nat.le_trans h.bw hg.size⟩

theorem add_zero_at (g j : Nat) : (⟨g, 0, none⟩ : Addr).add j = ⟨g, j, none⟩ := by
  unfold Addr.add
  by_cases h : j = 0
  · rw [if_pos h, h]
  · rw [if_neg h]; simp
theorem tcells_at (l : List Tok) (t : Tok) (j : Nat) (hj : j < 9) : (tcells (l ++ [t]))[l.length * 9 + j]? = t.cells[j]? := by
  have hl : (tcells l).length = l.length * 9 := by
    unfold tcells
    induction l with
    | nil => rfl
    | cons x r ih => simp only [List.flatMap_cons, List.length_append, ih, List.length_cons]; simp [Tok.cells]; omega
  have e : tcells (l ++ [t]) = tcells l ++ t.cells := by simp [tcells]
  rw [e, List.getElem?_append_right (by omega), hl, Nat.add_sub_cancel_left]

theorem lt_cell' {w : World} {a : Addr} {v : Value} (h : w.cell? a = some v) : a.block < w.heap.size := by
  refine Nat.lt_of_not_le fun hn => ?_
  have : w.heap[a.block]? = none := Array.getElem?_eq_none hn
  simp [World.cell?, this] at h
def AsksPost (w : World) (e : Ending) (w' : World) : Prop := ∃ b : Bool, e = .returned (.bool b) ∧ w.grownBy w' none
set_option maxHeartbeats 4000000 in
theorem asks_any (B b : Nat) (s : ByteArray) (p : Nat) (op : Bool) (T : List Tok) (D : List Int) (O : List (Bool × Int)) (w : World) (hT : T.length ≤ 200) (h : LS B b s w p op T D O) :
    Calls Tryd.prog 38 #[.pointer (some ⟨b, 0, none⟩)] w (AsksPost w) := by
  obtain ⟨o, d, q, la, co, h⟩ := h
  obtain ⟨c0, c1, c2, c3, c4, c5, c6, c7, c8⟩ := h.x.cells
  rcases List.eq_nil_or_concat T with rfl | ⟨ts, t, rfl⟩
  · have ho : o = .slice none 0 0 ∨ ∃ g cap, o = .slice (some ⟨g, 0, none⟩) 0 cap := by
      rcases h.ro.2 with ⟨h1, _⟩ | ⟨g, cap, cur, h1, _⟩
      · exact .inl h1
      · exact .inr ⟨g, cap, h1⟩
    clear h
    rcases ho with rfl | ⟨g, cap, rfl⟩
    all_goals
      go_enter Tryd.func38, Tryd.ntmps38
      go_wp2
      go_ret
      exact ⟨false, rfl, World.grownBy.refl _ _⟩
  · rw [List.concat_eq_append] at h hT
    obtain ⟨g, cap, rfl, hBg, hgl⟩ := h.ro.form (by simp)
    have hcell : ∀ j, j < 9 → w.cell? ⟨g, ts.length * 9 + j, none⟩ = t.cells[j]? := by
      intro j hj
      have e := tcells_at ts t j hj
      have hs : ∃ u, t.cells[j]? = some u := ⟨t.cells[j]'(by simpa [Tok.cells] using hj), List.getElem?_eq_getElem _⟩
      obtain ⟨u, hu⟩ := hs
      rw [hu] at e ⊢
      have := h.ro.cells (g := g) rfl _ _ e
      rwa [add_zero_at] at this
    have k0 := hcell 0 (by omega)
    have k1 := hcell 1 (by omega)
    have k2 := hcell 2 (by omega)
    have k3 := hcell 3 (by omega)
    have k4 := hcell 4 (by omega)
    have k5 := hcell 5 (by omega)
    have k6 := hcell 6 (by omega)
    have k7 := hcell 7 (by omega)
    have k8 := hcell 8 (by omega)
    have hne := h.ap.ob
    clear hcell h
    simp only [List.length_append, List.length_singleton] at c2 hT
    obtain ⟨n, hn⟩ : ∃ n, ts.length = n := ⟨_, rfl⟩
    rw [hn] at c2 k0 k1 k2 k3 k4 k5 k6 k7 k8 hT
    obtain ⟨tk, tt, tf, tl, th, tta, te, tfr, tto⟩ := t
    simp only [Tok.cells, List.getElem?_cons_zero, List.getElem?_cons_succ, Nat.add_zero] at k0 k1 k2 k3 k4 k5 k6 k7 k8
    have g1 : (((n + 1 : Nat) : Int) == 0) = false := beq_false_of_ne (by omega)
    have w1 : IntKind.i64.wrap (((n + 1 : Nat) : Int) - 1) = n := by rw [show ((n + 1 : Nat) : Int) - 1 = n by omega]; exact IntWalk.i64_in _ (by omega)
    have w2 : IntKind.i64.wrap (n : Int) = n := IntWalk.i64_in _ (by omega)
    have b1 : (0 : Int) ≤ n := by omega
    have b2 : (n : Int) < ((n + 1 : Nat) : Int) := by omega
    have b3 : (n : Int) < (n : Int) + 1 := by omega
    have nb : w.heap.size ≠ b := World.new_ne w ⟨b, 2, none⟩ c2
    have ng : w.heap.size ≠ g := World.new_ne w ⟨g, n * 9, none⟩ k0
    clear hn
    go_enter Tryd.func38, Tryd.ntmps38
    go_wp2
    go_region_held3 (fun w' => w'.cell? ⟨b, 2, none⟩ = some (.slice (some ⟨g, 0, none⟩) (n + 1) cap) ∧ w'.cell? ⟨b, 8, none⟩ = some (.bool co) ∧ w'.cell? ⟨g, n * 9, none⟩ = some (.int .i64 tk) ∧ w'.cell? ⟨g, n * 9 + 1, none⟩ = some (.string tt) ∧ w'.cell? ⟨g, n * 9 + 2, none⟩ = some (.float .f64 tf) ∧ w'.cell? ⟨g, n * 9 + 3, none⟩ = some (.bool tl) ∧ w'.cell? ⟨g, n * 9 + 4, none⟩ = some (.bool th) ∧ w'.cell? ⟨g, n * 9 + 5, none⟩ = some (.bool tta) ∧ w'.cell? ⟨g, n * 9 + 6, none⟩ = some (.bool te) ∧ w'.cell? ⟨g, n * 9 + 7, none⟩ = some (.int .i64 tfr) ∧ w'.cell? ⟨g, n * 9 + 8, none⟩ = some (.int .i64 tto)) (go_keep) (fail)
    clear k0 k1 k2 k3 k4 k5 k6 k7 k8 w1 w2 b1 b2 b3 g1
    go_wp2
    all_goals
      go_ret
      exact ⟨_, rfl, gb_drewN (World.grownBy_alloc _ _ _) 1⟩
set_option maxRecDepth 100000

theorem bcells_at (l : List (Bool × Int)) (x : Bool × Int) : (bcells (l ++ [x]))[l.length * 2]? = some (.bool x.1) ∧ (bcells (l ++ [x]))[l.length * 2 + 1]? = some (.int .i64 x.2) := by
  have hl : (bcells l).length = l.length * 2 := by
    unfold bcells
    induction l with
    | nil => rfl
    | cons x r ih => simp only [List.flatMap_cons, List.length_append, ih, List.length_cons, List.length_nil]; omega
  have e : bcells (l ++ [x]) = bcells l ++ [.bool x.1, .int .i64 x.2] := by simp [bcells]
  rw [e]
  constructor
  · rw [List.getElem?_append_right (by omega), hl, Nat.sub_self]; rfl
  · rw [List.getElem?_append_right (by omega), hl, Nat.add_sub_cancel_left]; rfl


theorem info76 : (Tryd.prog.info? 76).map (fun i => (i.zero, i.size, i.bytes)) = some (some (.agg #[.bool false, .int .i64 0]), 2, 16) := by kernel_rfl
theorem info31 : (Tryd.prog.info? 31).map (fun i => (i.zero, i.size, i.bytes)) = some (some (.agg #[.int .i64 0, .string .empty, .float .f64 0, .bool false, .bool false, .bool false, .bool false, .int .i64 0, .int .i64 0]), 9, 56) := by kernel_rfl
theorem info3 : (Tryd.prog.info? 3).map (fun i => (i.zero, i.size, i.bytes)) = some (some (.int .i64 0), 1, 8) := by kernel_rfl

/-- what is kept of the lexer where one of its rows has grown -/
theorem LX.grown {w w1 : World} {b : Nat} {s : ByteArray} {p : Int} {o d : Value} {op : Bool} {q : Value} {la co : Bool} (h : LX w b s p o d op q la co) {v : Value} (hg : w.grownBy w1 v.ownBlock) (hv : v.ownBlock ≠ some b) : LX w1 b s p o d op q la co :=
  (hg.block b (lt_of_block h) (fun e => hv e.symm)).trans h
theorem row_set {B b : Nat} {w : World} {e : TypeId} {size : Nat} {v : Value} {n : Nat} {xs : List Value} (h : w.ownsRow B e size v n xs) (hv : v.ownBlock ≠ some b) (i : Nat) (u : Value) : (w.setCell ⟨b, i, none⟩ u).ownsRow B e size v n xs :=
  h.kept (gb_set (World.grownBy.refl _ _) i u) (.inr hv)
theorem own_lt {B : Nat} {w : World} {e : TypeId} {size : Nat} {v : Value} {n : Nat} {xs : List Value} (h : w.ownsRow B e size v n xs) {k : Nat} (hk : v.ownBlock = some k) : k < w.heap.size := (h.lt k hk).2

theorem LV.newq {B b : Nat} {s : ByteArray} {W w1 : World} {p : Nat} {op : Bool} {T : List Tok} {D : List Int} {O O' : List (Bool × Int)} {o d q : Value} {la co : Bool} {g' cap' : Nat}
    (h : LV B b s W p op T D O o d q la co) (hown : w1.ownsRow B 76 2 (.slice (some ⟨g', 0, none⟩) O'.length cap') O'.length (bcells O')) (hgrow : W.grownBy w1 q.ownBlock) (hat : q.ownBlock = some g' ∨ g' = W.heap.size) :
    LV B b s (w1.setCell ⟨b, 6, none⟩ (.slice (some ⟨g', 0, none⟩) O'.length cap')) p op T D O' o d (.slice (some ⟨g', 0, none⟩) O'.length cap') la co := by
  have hb := lt_of_block h.x
  have ho : ∀ k, o.ownBlock = some k → k ≠ g' := fun k hk e => by
    subst e
    rcases hat with h1 | h1
    · exact h.ap.oq k hk h1
    · have := own_lt h.ro hk; omega
  have hd : ∀ k, d.ownBlock = some k → k ≠ g' := fun k hk e => by
    subst e
    rcases hat with h1 | h1
    · exact h.ap.dq k hk h1
    · have := own_lt h.rd hk; omega
  have hgb : b ≠ g' := fun e => by
    subst e
    rcases hat with h1 | h1
    · exact h.ap.qb h1
    · omega
  have kr : ∀ v : Value, (∀ k, v.ownBlock = some k → q.ownBlock ≠ some k) → v.ownBlock = none ∨ v.ownBlock ≠ q.ownBlock := fun v hv => by
    cases e : v.ownBlock with
    | none => exact .inl rfl
    | some k => exact .inr fun e2 => hv k e e2.symm
  refine ⟨LX.set6 (h.x.grown hgrow h.ap.qb) _, row_set (h.ro.kept hgrow (kr _ h.ap.oq)) h.ap.ob _ _, row_set (h.rd.kept hgrow (kr _ h.ap.dq)) h.ap.db _ _, row_set hown (by simp only [Value.ownBlock]; intro e; exact hgb (Option.some.inj e).symm) _ _, ⟨h.ap.ob, h.ap.db, ?_, h.ap.od, ?_, ?_⟩, h.bb, Nat.le_trans h.bw (by simpa using hgrow.size)⟩
  · simp only [Value.ownBlock]; intro e; exact hgb (Option.some.inj e).symm
  · intro k hk e; exact ho k hk (Option.some.inj e).symm
  · intro k hk e; exact hd k hk (Option.some.inj e).symm
theorem LV.newo {B b : Nat} {s : ByteArray} {W w1 : World} {p : Nat} {op : Bool} {T T' : List Tok} {D : List Int} {O : List (Bool × Int)} {o d q : Value} {la co : Bool} {g' cap' : Nat}
    (h : LV B b s W p op T D O o d q la co) (hown : w1.ownsRow B 31 9 (.slice (some ⟨g', 0, none⟩) T'.length cap') T'.length (tcells T')) (hgrow : W.grownBy w1 o.ownBlock) (hat : o.ownBlock = some g' ∨ g' = W.heap.size) :
    LV B b s (w1.setCell ⟨b, 2, none⟩ (.slice (some ⟨g', 0, none⟩) T'.length cap')) p op T' D O (.slice (some ⟨g', 0, none⟩) T'.length cap') d q la co := by
  have hb := lt_of_block h.x
  have hq : ∀ k, q.ownBlock = some k → k ≠ g' := fun k hk e => by
    subst e
    rcases hat with h1 | h1
    · exact h.ap.oq k h1 hk
    · have := own_lt h.rq hk; omega
  have hd : ∀ k, d.ownBlock = some k → k ≠ g' := fun k hk e => by
    subst e
    rcases hat with h1 | h1
    · exact h.ap.od k h1 hk
    · have := own_lt h.rd hk; omega
  have hgb : b ≠ g' := fun e => by
    subst e
    rcases hat with h1 | h1
    · exact h.ap.ob h1
    · omega
  have kr : ∀ v : Value, (∀ k, o.ownBlock = some k → v.ownBlock ≠ some k) → v.ownBlock = none ∨ v.ownBlock ≠ o.ownBlock := fun v hv => by
    cases e : v.ownBlock with
    | none => exact .inl rfl
    | some k => exact .inr fun e2 => hv k e2.symm e
  refine ⟨LX.set2 (h.x.grown hgrow h.ap.ob) _, row_set hown (by simp only [Value.ownBlock]; intro e; exact hgb (Option.some.inj e).symm) _ _, row_set (h.rd.kept hgrow (kr _ h.ap.od)) h.ap.db _ _, row_set (h.rq.kept hgrow (kr _ h.ap.oq)) h.ap.qb _ _, ⟨?_, h.ap.db, h.ap.qb, ?_, ?_, h.ap.dq⟩, h.bb, Nat.le_trans h.bw (by simpa using hgrow.size)⟩
  · simp only [Value.ownBlock]; intro e; exact hgb (Option.some.inj e).symm
  · intro k hk e; exact hd k e (Option.some.inj hk).symm
  · intro k hk e; exact hq k e (Option.some.inj hk).symm
theorem LV.newd {B b : Nat} {s : ByteArray} {W w1 : World} {p : Nat} {op : Bool} {T : List Tok} {D D' : List Int} {O : List (Bool × Int)} {o d q : Value} {la co : Bool} {g' cap' : Nat}
    (h : LV B b s W p op T D O o d q la co) (hown : w1.ownsRow B 3 1 (.slice (some ⟨g', 0, none⟩) D'.length cap') D'.length (dcs D')) (hgrow : W.grownBy w1 d.ownBlock) (hat : d.ownBlock = some g' ∨ g' = W.heap.size) :
    LV B b s (w1.setCell ⟨b, 3, none⟩ (.slice (some ⟨g', 0, none⟩) D'.length cap')) p op T D' O o (.slice (some ⟨g', 0, none⟩) D'.length cap') q la co := by
  have hb := lt_of_block h.x
  have hq : ∀ k, q.ownBlock = some k → k ≠ g' := fun k hk e => by
    subst e
    rcases hat with h1 | h1
    · exact h.ap.dq k h1 hk
    · have := own_lt h.rq hk; omega
  have ho : ∀ k, o.ownBlock = some k → k ≠ g' := fun k hk e => by
    subst e
    rcases hat with h1 | h1
    · exact h.ap.od k hk h1
    · have := own_lt h.ro hk; omega
  have hgb : b ≠ g' := fun e => by
    subst e
    rcases hat with h1 | h1
    · exact h.ap.db h1
    · omega
  have kr1 : q.ownBlock = none ∨ q.ownBlock ≠ d.ownBlock := by
    cases e : q.ownBlock with
    | none => exact .inl rfl
    | some k => exact .inr fun e2 => h.ap.dq k e2.symm e
  have kr2 : o.ownBlock = none ∨ o.ownBlock ≠ d.ownBlock := by
    cases e : o.ownBlock with
    | none => exact .inl rfl
    | some k => exact .inr fun e2 => h.ap.od k e e2.symm
  refine ⟨LX.set3 (h.x.grown hgrow h.ap.db) _, row_set (h.ro.kept hgrow kr2) h.ap.ob _ _, row_set hown (by simp only [Value.ownBlock]; intro e; exact hgb (Option.some.inj e).symm) _ _, row_set (h.rq.kept hgrow kr1) h.ap.qb _ _, ⟨h.ap.ob, ?_, h.ap.qb, ?_, h.ap.oq, ?_⟩, h.bb, Nat.le_trans h.bw (by simpa using hgrow.size)⟩
  · simp only [Value.ownBlock]; intro e; exact hgb (Option.some.inj e).symm
  · intro k hk e; exact ho k hk (Option.some.inj e).symm
  · intro k hk e; exact hq k e (Option.some.inj hk).symm

/-- nothing below B has changed -/
theorem bel_grow {B : Nat} {w w' : World} {r : Option Nat} (h : w.grownBy w' r) (hB : B ≤ w.heap.size) (hr : ∀ k, r = some k → B ≤ k) : Below B w w' := (Below.refl B w).grown h hB hr
theorem own_B {B : Nat} {w : World} {e : TypeId} {size : Nat} {v : Value} {n : Nat} {xs : List Value} (h : w.ownsRow B e size v n xs) : ∀ k, v.ownBlock = some k → B ≤ k := fun k hk => (h.lt k hk).1

set_option maxRecDepth 100000

theorem LV.pushq {B b : Nat} {s : ByteArray} {w : World} {p : Nat} {op : Bool} {T : List Tok} {D : List Int} {O : List (Bool × Int)} {o d q : Value} {la co : Bool}
    (h : LV B b s w p op T D O o d q la co) (x : Bool) (y : Int) :
    (w.alloc (.cells #[.bool x, .int .i64 y] 76)).ownsRow B 76 2 q O.length (bcells O) ∧
    (∀ j u, [.bool x, .int .i64 y][j]? = some u → (w.alloc (.cells #[.bool x, .int .i64 y] 76)).cell? ((⟨w.heap.size, 0, none⟩ : Addr).add j) = some u) ∧ B ≤ (w.alloc (.cells #[.bool x, .int .i64 y] 76)).heap.size ∧
    (∀ w1, (w.alloc (.cells #[.bool x, .int .i64 y] 76)).grownBy w1 q.ownBlock → LX w1 b s p o d op q la co) ∧
    (∀ g2 cap2 w1, w1.ownsRow B 76 2 (.slice (some ⟨g2, 0, none⟩) (O.length + 1) cap2) (O.length + 1) (bcells O ++ [.bool x, .int .i64 y]) → (w.alloc (.cells #[.bool x, .int .i64 y] 76)).grownBy w1 q.ownBlock → (q.ownBlock = some g2 ∨ g2 = w.heap.size + 1) →
      (∃ V, V = .slice (some ⟨g2, 0, none⟩) (O.length + 1) cap2 ∧ LV B b s (w1.setCell ⟨b, 6, none⟩ (.slice (some ⟨g2, 0, none⟩) (O.length + 1) cap2)) p op T D (O ++ [(x, y)]) o d V la co) ∧ Below B w (w1.setCell ⟨b, 6, none⟩ (.slice (some ⟨g2, 0, none⟩) (O.length + 1) cap2))) := by
  have hV := h.kept (World.grownBy_alloc w (.cells #[.bool x, .int .i64 y] 76) none)
  refine ⟨hV.rq, World.news_of_block (heap_alloc_new w (.cells #[.bool x, .int .i64 y] 76)), hV.bw, fun w1 hg => hV.x.grown hg h.ap.qb, fun g2 cap2 w1 ho hgr hat => ?_⟩
  have e : bcells O ++ [.bool x, .int .i64 y] = bcells (O ++ [(x, y)]) := by simp [bcells]
  have el : O.length + 1 = (O ++ [(x, y)]).length := by simp
  rw [e] at ho
  have hB : Below B w (w1.setCell ⟨b, 6, none⟩ (.slice (some ⟨g2, 0, none⟩) (O.length + 1) cap2)) :=
    (((Below.refl B w).alloc h.bw _).trans (bel_grow hgr hV.bw (own_B hV.rq))).setCell h.bb _
  rw [el] at ho hB ⊢
  exact ⟨⟨_, rfl, LV.newq hV ho hgr (hat.elim .inl fun h => .inr (by rw [h]; simp))⟩, hB⟩

theorem LV.pusho {B b : Nat} {s : ByteArray} {w : World} {p : Nat} {op : Bool} {T : List Tok} {D : List Int} {O : List (Bool × Int)} {o d q : Value} {la co : Bool}
    (h : LV B b s w p op T D O o d q la co) (t : Tok) :
    (w.alloc (.cells #[.int .i64 t.k, .string t.t, .float .f64 t.f, .bool t.l, .bool t.h, .bool t.ta, .bool t.e, .int .i64 t.fr, .int .i64 t.too] 31)).ownsRow B 31 9 o T.length (tcells T) ∧
    (∀ j u, [.int .i64 t.k, .string t.t, .float .f64 t.f, .bool t.l, .bool t.h, .bool t.ta, .bool t.e, .int .i64 t.fr, .int .i64 t.too][j]? = some u → (w.alloc (.cells #[.int .i64 t.k, .string t.t, .float .f64 t.f, .bool t.l, .bool t.h, .bool t.ta, .bool t.e, .int .i64 t.fr, .int .i64 t.too] 31)).cell? ((⟨w.heap.size, 0, none⟩ : Addr).add j) = some u) ∧ B ≤ (w.alloc (.cells #[.int .i64 t.k, .string t.t, .float .f64 t.f, .bool t.l, .bool t.h, .bool t.ta, .bool t.e, .int .i64 t.fr, .int .i64 t.too] 31)).heap.size ∧
    (∀ w1, (w.alloc (.cells #[.int .i64 t.k, .string t.t, .float .f64 t.f, .bool t.l, .bool t.h, .bool t.ta, .bool t.e, .int .i64 t.fr, .int .i64 t.too] 31)).grownBy w1 o.ownBlock → LX w1 b s p o d op q la co) ∧
    (∀ g2 cap2 w1, w1.ownsRow B 31 9 (.slice (some ⟨g2, 0, none⟩) (T.length + 1) cap2) (T.length + 1) (tcells T ++ [.int .i64 t.k, .string t.t, .float .f64 t.f, .bool t.l, .bool t.h, .bool t.ta, .bool t.e, .int .i64 t.fr, .int .i64 t.too]) → (w.alloc (.cells #[.int .i64 t.k, .string t.t, .float .f64 t.f, .bool t.l, .bool t.h, .bool t.ta, .bool t.e, .int .i64 t.fr, .int .i64 t.too] 31)).grownBy w1 o.ownBlock → (o.ownBlock = some g2 ∨ g2 = w.heap.size + 1) →
      (∃ V, V = .slice (some ⟨g2, 0, none⟩) (T.length + 1) cap2 ∧ LV B b s (w1.setCell ⟨b, 2, none⟩ (.slice (some ⟨g2, 0, none⟩) (T.length + 1) cap2)) p op (T ++ [t]) D O V d q la co) ∧ Below B w (w1.setCell ⟨b, 2, none⟩ (.slice (some ⟨g2, 0, none⟩) (T.length + 1) cap2))) := by
  have hV := h.kept (World.grownBy_alloc w (.cells #[.int .i64 t.k, .string t.t, .float .f64 t.f, .bool t.l, .bool t.h, .bool t.ta, .bool t.e, .int .i64 t.fr, .int .i64 t.too] 31) none)
  refine ⟨hV.ro, World.news_of_block (heap_alloc_new w (.cells #[.int .i64 t.k, .string t.t, .float .f64 t.f, .bool t.l, .bool t.h, .bool t.ta, .bool t.e, .int .i64 t.fr, .int .i64 t.too] 31)), hV.bw, fun w1 hg => hV.x.grown hg h.ap.ob, fun g2 cap2 w1 ho hgr hat => ?_⟩
  have e : tcells T ++ [.int .i64 t.k, .string t.t, .float .f64 t.f, .bool t.l, .bool t.h, .bool t.ta, .bool t.e, .int .i64 t.fr, .int .i64 t.too] = tcells (T ++ [t]) := by simp [tcells, Tok.cells]
  have el : T.length + 1 = (T ++ [t]).length := by simp
  rw [e] at ho
  have hB : Below B w (w1.setCell ⟨b, 2, none⟩ (.slice (some ⟨g2, 0, none⟩) (T.length + 1) cap2)) :=
    (((Below.refl B w).alloc h.bw _).trans (bel_grow hgr hV.bw (own_B hV.ro))).setCell h.bb _
  rw [el] at ho hB ⊢
  exact ⟨⟨_, rfl, LV.newo hV ho hgr (hat.elim .inl fun h => .inr (by rw [h]; simp))⟩, hB⟩

theorem LV.pushd {B b : Nat} {s : ByteArray} {w : World} {p : Nat} {op : Bool} {T : List Tok} {D : List Int} {O : List (Bool × Int)} {o d q : Value} {la co : Bool}
    (h : LV B b s w p op T D O o d q la co) (y : Int) :
    (w.alloc (.cells #[.int .i64 y] 3)).ownsRow B 3 1 d D.length (dcs D) ∧
    (∀ j u, [.int .i64 y][j]? = some u → (w.alloc (.cells #[.int .i64 y] 3)).cell? ((⟨w.heap.size, 0, none⟩ : Addr).add j) = some u) ∧ B ≤ (w.alloc (.cells #[.int .i64 y] 3)).heap.size ∧
    (∀ w1, (w.alloc (.cells #[.int .i64 y] 3)).grownBy w1 d.ownBlock → LX w1 b s p o d op q la co) ∧
    (∀ g2 cap2 w1, w1.ownsRow B 3 1 (.slice (some ⟨g2, 0, none⟩) (D.length + 1) cap2) (D.length + 1) (dcs D ++ [.int .i64 y]) → (w.alloc (.cells #[.int .i64 y] 3)).grownBy w1 d.ownBlock → (d.ownBlock = some g2 ∨ g2 = w.heap.size + 1) →
      (∃ V, V = .slice (some ⟨g2, 0, none⟩) (D.length + 1) cap2 ∧ LV B b s (w1.setCell ⟨b, 3, none⟩ (.slice (some ⟨g2, 0, none⟩) (D.length + 1) cap2)) p op T (D ++ [y]) O o V q la co) ∧ Below B w (w1.setCell ⟨b, 3, none⟩ (.slice (some ⟨g2, 0, none⟩) (D.length + 1) cap2))) := by
  have hV := h.kept (World.grownBy_alloc w (.cells #[.int .i64 y] 3) none)
  refine ⟨hV.rd, World.news_of_block (heap_alloc_new w (.cells #[.int .i64 y] 3)), hV.bw, fun w1 hg => hV.x.grown hg h.ap.db, fun g2 cap2 w1 ho hgr hat => ?_⟩
  have e : dcs D ++ [.int .i64 y] = dcs (D ++ [y]) := by simp [dcs]
  have el : D.length + 1 = (D ++ [y]).length := by simp
  rw [e] at ho
  have hB : Below B w (w1.setCell ⟨b, 3, none⟩ (.slice (some ⟨g2, 0, none⟩) (D.length + 1) cap2)) :=
    (((Below.refl B w).alloc h.bw _).trans (bel_grow hgr hV.bw (own_B hV.rd))).setCell h.bb _
  rw [el] at ho hB ⊢
  exact ⟨⟨_, rfl, LV.newd hV ho hgr (hat.elim .inl fun h => .inr (by rw [h]; simp))⟩, hB⟩
set_option maxRecDepth 100000

theorem own_free {B : Nat} {w : World} {e : TypeId} {size : Nat} {v : Value} {n : Nat} {xs : List Value} (h : w.ownsRow B e size v n xs) {g : Nat} (hg : v.ownBlock = some g) (i : Nat) : w.frozen? ⟨g, i, none⟩ = false := by
  rcases h.2 with ⟨rfl, _⟩ | ⟨g', cap, cur, rfl, _, hb, _⟩
  · exact absurd hg (by simp [Value.ownBlock])
  · have : g' = g := by simpa [Value.ownBlock] using hg
    subst this
    simp [World.frozen?, hb]
theorem own_cap {B : Nat} {w : World} {e : TypeId} {size : Nat} {g n' n cap : Nat} {xs : List Value} (h : w.ownsRow B e size (.slice (some ⟨g, 0, none⟩) n' cap) n xs) : n ≤ cap ∧ cap ≤ maxLen := by
  rcases h.2 with ⟨h1, _⟩ | ⟨g', cap', cur, h1, _, _, h2, h3, _⟩
  · exact absurd h1 (by simp)
  · have : cap = cap' := by simp only [Value.slice.injEq] at h1; exact h1.2.2
    subst this
    exact ⟨h2, h3⟩
theorem row_pop {B : Nat} {w : World} {e : TypeId} {size : Nat} {g n cap k : Nat} {xs ys : List Value} (h : w.ownsRow B e size (.slice (some ⟨g, 0, none⟩) n cap) n (xs ++ ys)) (hk : k ≤ n) (hx : xs.length = k * size) : w.ownsRow B e size (.slice (some ⟨g, 0, none⟩) k cap) k xs := by
  refine ⟨hx, .inr ?_⟩
  rcases h.2 with ⟨h1, _⟩ | ⟨g', cap', cur, h1, hB, hb, hn, hm, hc, ht⟩
  · exact absurd h1 (by simp)
  · have e1 : g = g' ∧ cap = cap' := by
      simp only [Value.slice.injEq, Option.some.injEq, Addr.mk.injEq] at h1
      exact ⟨h1.1.1, h1.2.2⟩
    obtain ⟨rfl, rfl⟩ := e1
    refine ⟨g, cap, cur, rfl, hB, hb, by omega, hm, hc, ?_⟩
    have := congrArg (List.take (k * size)) ht
    rw [List.take_take, Nat.min_eq_left (Nat.mul_le_mul_right _ hk), ← hx, List.take_left] at this
    rw [← hx]; exact this
theorem row_setc {B : Nat} {w : World} {e : TypeId} {size : Nat} {v : Value} {n : Nat} {xs : List Value} (h : w.ownsRow B e size v n xs) {g : Nat} (hg : v.ownBlock = some g) (j : Nat) (u : Value) : (w.setCell ⟨g, j, none⟩ u).ownsRow B e size v n (xs.set j u) := by
  refine ⟨by rw [List.length_set]; exact h.1, ?_⟩
  rcases h.2 with ⟨rfl, _⟩ | ⟨g', cap, cur, rfl, hB, hb, hn, hm, hc, ht⟩
  · exact absurd hg (by simp [Value.ownBlock])
  · have : g' = g := by simpa [Value.ownBlock] using hg
    subst this
    refine .inr ⟨g', cap, cur.set! j u, rfl, hB, ?_, hn, hm, by simpa using hc, ?_⟩
    · have hlt : g' < w.heap.size := by
        rcases Nat.lt_or_ge g' w.heap.size with h1 | h1
        · exact h1
        · rw [Array.getElem?_eq_none h1] at hb; exact absurd hb (by simp)
      rw [Array.getElem?_eq_getElem hlt, Option.some.injEq] at hb
      show (w.heap.modify g' _)[g']? = _
      rw [Array.getElem?_eq_getElem (by simpa using hlt), Array.getElem_modify_self, hb]
      rfl
    · rw [← ht]
      simp [List.take_set]
theorem gb_set2 {w wr : World} {r : Option Nat} (h : w.grownBy wr r) {g : Nat} (hg : r = some g) (i : Nat) (v : Value) : w.grownBy (wr.setCell ⟨g, i, none⟩ v) r := by
  subst hg; exact gb_set h i v

/-- the last bracket is popped -/
theorem LV.popq {B b : Nat} {s : ByteArray} {w : World} {p : Nat} {op : Bool} {T : List Tok} {D : List Int} {O : List (Bool × Int)} {z : Bool × Int} {o d : Value} {la co : Bool} {g cap : Nat}
    (h : LV B b s w p op T D (O ++ [z]) o d (.slice (some ⟨g, 0, none⟩) (O.length + 1) cap) la co) :
    LV B b s (w.setCell ⟨b, 6, none⟩ (.slice (some ⟨g, 0, none⟩) O.length cap)) p op T D O o d (.slice (some ⟨g, 0, none⟩) O.length cap) la co := by
  have hq := h.rq
  rw [show bcells (O ++ [z]) = bcells O ++ [.bool z.1, .int .i64 z.2] by simp [bcells], show (O ++ [z]).length = O.length + 1 by simp] at hq
  have hl : (bcells O).length = O.length * 2 := by
    have := hq.1
    simp only [List.length_append, List.length_cons, List.length_nil] at this
    omega
  have hq2 := row_pop hq (Nat.le_succ _) hl
  exact ⟨LX.set6 h.x _, row_set h.ro h.ap.ob _ _, row_set h.rd h.ap.db _ _, row_set hq2 h.ap.qb _ _, ⟨h.ap.ob, h.ap.db, h.ap.qb, h.ap.od, h.ap.oq, h.ap.dq⟩, h.bb, by simpa using h.bw⟩
/-- the last bracket's count is set -/
theorem LV.setq {B b : Nat} {s : ByteArray} {w : World} {p : Nat} {op : Bool} {T : List Tok} {D : List Int} {O : List (Bool × Int)} {x : Bool} {y : Int} {o d : Value} {la co : Bool} {g n' cap : Nat}
    (h : LV B b s w p op T D (O ++ [(x, y)]) o d (.slice (some ⟨g, 0, none⟩) n' cap) la co) (y' : Int) :
    LV B b s (w.setCell ⟨g, O.length * 2 + 1, none⟩ (.int .i64 y')) p op T D (O ++ [(x, y')]) o d (.slice (some ⟨g, 0, none⟩) n' cap) la co := by
  have hq := row_setc h.rq (g := g) rfl (O.length * 2 + 1) (.int .i64 y')
  have hl : (bcells O).length = O.length * 2 := by
    have := h.rq.1
    simp only [bcells, List.flatMap_append, List.length_append, List.flatMap_cons, List.flatMap_nil, List.length_cons, List.length_nil] at this ⊢
    omega
  have e : (bcells (O ++ [(x, y)])).set (O.length * 2 + 1) (.int .i64 y') = bcells (O ++ [(x, y')]) := by
    simp only [bcells, List.flatMap_append, List.flatMap_cons, List.flatMap_nil]
    rw [List.set_append_right _ _ (by show (bcells O).length ≤ _; omega)]
    congr 1
    show List.set _ (O.length * 2 + 1 - (bcells O).length) _ = _
    rw [hl, Nat.add_sub_cancel_left]
    rfl
  rw [e] at hq
  have hg := gb_set (b := g) (World.grownBy.refl w _) (O.length * 2 + 1) (.int .i64 y')
  have hgb : g ≠ b := fun e => h.ap.qb (by simp [Value.ownBlock, e])
  have kr : ∀ v : Value, (∀ k, v.ownBlock = some k → Value.ownBlock (.slice (some ⟨g, 0, none⟩) n' cap) ≠ some k) → v.ownBlock = none ∨ v.ownBlock ≠ some g := fun v hv => by
    cases e : v.ownBlock with
    | none => exact .inl rfl
    | some k => exact .inr fun e2 => hv k e (by rw [e2]; rfl)
  refine ⟨(hg.block b (lt_of_block h.x) (by simp; exact fun e => hgb e.symm)).trans h.x, h.ro.kept hg (kr _ h.ap.oq), h.rd.kept hg (kr _ h.ap.dq), ?_, h.ap, h.bb, by simpa using h.bw⟩
  have el : (O ++ [(x, y')]).length = (O ++ [(x, y)]).length := by simp
  rw [el]; exact hq
set_option maxRecDepth 100000

/-- the last open brace is popped -/
theorem LV.popd {B b : Nat} {s : ByteArray} {w : World} {p : Nat} {op : Bool} {T : List Tok} {D : List Int} {y : Int} {O : List (Bool × Int)} {o q : Value} {la co : Bool} {g cap : Nat}
    (h : LV B b s w p op T (D ++ [y]) O o (.slice (some ⟨g, 0, none⟩) (D.length + 1) cap) q la co) :
    LV B b s (w.setCell ⟨b, 3, none⟩ (.slice (some ⟨g, 0, none⟩) D.length cap)) p op T D O o (.slice (some ⟨g, 0, none⟩) D.length cap) q la co := by
  have hd := h.rd
  rw [show dcs (D ++ [y]) = dcs D ++ [.int .i64 y] by simp [dcs], show (D ++ [y]).length = D.length + 1 by simp] at hd
  have hl : (dcs D).length = D.length * 1 := by simp [dcs]
  have hd2 := row_pop hd (Nat.le_succ _) hl
  exact ⟨LX.set3 h.x _, row_set h.ro h.ap.ob _ _, row_set hd2 h.ap.db _ _, row_set h.rq h.ap.qb _ _, ⟨h.ap.ob, h.ap.db, h.ap.qb, h.ap.od, h.ap.oq, h.ap.dq⟩, h.bb, by simpa using h.bw⟩
theorem tcells_len (l : List Tok) : (tcells l).length = l.length * 9 := by
  unfold tcells
  induction l with
  | nil => rfl
  | cons x r ih => simp only [List.flatMap_cons, List.length_append, ih, List.length_cons]; simp [Tok.cells]; omega
theorem LV.sett {B b : Nat} {s : ByteArray} {w : World} {p : Nat} {op : Bool} {T : List Tok} {t t' : Tok} {D : List Int} {O : List (Bool × Int)} {d q : Value} {la co : Bool} {g n' cap : Nat}
    (h : LV B b s w p op (T ++ [t]) D O (.slice (some ⟨g, 0, none⟩) n' cap) d q la co) (j : Nat) (v : Value) (ht : t.cells.set j v = t'.cells) :
    LV B b s (w.setCell ⟨g, T.length * 9 + j, none⟩ v) p op (T ++ [t']) D O (.slice (some ⟨g, 0, none⟩) n' cap) d q la co := by
  have ho := row_setc h.ro (g := g) rfl (T.length * 9 + j) v
  have e : (tcells (T ++ [t])).set (T.length * 9 + j) v = tcells (T ++ [t']) := by
    have e1 : ∀ x : Tok, tcells (T ++ [x]) = tcells T ++ x.cells := fun x => by simp [tcells]
    rw [e1, e1, ← ht, List.set_append_right _ _ (by rw [tcells_len]; omega), tcells_len, Nat.add_sub_cancel_left]
  rw [e] at ho
  have hg := gb_set (b := g) (World.grownBy.refl w _) (T.length * 9 + j) v
  have hgb : g ≠ b := fun e => h.ap.ob (by simp [Value.ownBlock, e])
  have kr1 : d.ownBlock = none ∨ d.ownBlock ≠ some g := .inr (h.ap.od g rfl)
  have kr2 : q.ownBlock = none ∨ q.ownBlock ≠ some g := .inr (h.ap.oq g rfl)
  refine ⟨(hg.block b (lt_of_block h.x) (by simp; exact fun e => hgb e.symm)).trans h.x, ?_, h.rd.kept hg kr1, h.rq.kept hg kr2, h.ap, h.bb, by simpa using h.bw⟩
  have el : (T ++ [t']).length = (T ++ [t]).length := by simp
  rw [el]; exact ho
theorem LV.setfr {B b : Nat} {s : ByteArray} {w : World} {p : Nat} {op : Bool} {T : List Tok} {t : Tok} {D : List Int} {O : List (Bool × Int)} {d q : Value} {la co : Bool} {g n' cap : Nat}
    (h : LV B b s w p op (T ++ [t]) D O (.slice (some ⟨g, 0, none⟩) n' cap) d q la co) (y : Int) :
    LV B b s (w.setCell ⟨g, T.length * 9 + 7, none⟩ (.int .i64 y)) p op (T ++ [{ t with fr := y }]) D O (.slice (some ⟨g, 0, none⟩) n' cap) d q la co := h.sett 7 _ rfl
theorem LV.setto {B b : Nat} {s : ByteArray} {w : World} {p : Nat} {op : Bool} {T : List Tok} {t : Tok} {D : List Int} {O : List (Bool × Int)} {d q : Value} {la co : Bool} {g n' cap : Nat}
    (h : LV B b s w p op (T ++ [t]) D O (.slice (some ⟨g, 0, none⟩) n' cap) d q la co) (y : Int) :
    LV B b s (w.setCell ⟨g, T.length * 9 + 8, none⟩ (.int .i64 y)) p op (T ++ [{ t with too := y }]) D O (.slice (some ⟨g, 0, none⟩) n' cap) d q la co := h.sett 8 _ rfl
end Go.Proofs.YtblphppdfiipfaaDoor
