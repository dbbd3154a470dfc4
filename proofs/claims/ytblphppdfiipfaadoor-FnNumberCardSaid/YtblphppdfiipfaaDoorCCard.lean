/- A number that is made shorter is the same number, and no longer than it was: the tied card of laws.FnNumber. Conditions: none. -/
import Derived.Test.YtblphppdfiipfaaDoorCLaw
import Derived.Test.YtblphppdfiipfaaDoorRows
import Derived.Lib.LaidU8T
import Derived.PinnedBridge
import Derived.OpenShut
import Derived.Deep.Strs
import Derived.Test.YtblphppdfiipfaaDoorCards
import Derived.Test.YtblphppdfiipfaaDoorTie
import Derived.WalkKit
import Derived.ProofKit
import Derived.Lay
import Derived.ChangeMaps5
import Derived.SevenTiedAt
namespace Go.Proofs.YtblphppdfiipfaaDoor
open Go.RowKit Go.Lib
set_option maxRecDepth 100000

section
variable {H : Type} {enc : TypeId × Value → H} {P : Program} {w : World} {base : Nat} {held : Bool}
theorem slice_elem {sp : Nat → Bool} (hsp : ∀ k, sp k = true) {fuel : Nat} {t e : TypeId} {cs : List Value} {ds : List (DataW H)} {p : List MemPlace} (ht : P.underlying t = some (.slice e))
    (h : DataW.trod enc P w base sp held fuel t cs = some (.slice ds [], p)) :
    ∃ a, cs = [.slice (some a) ds.length ds.length] ∧ ∀ (i : Nat) (d : DataW H), ds[i]? = some d → ∃ cs' fuel' q, cs'.length = P.cellsOf e ∧ (∀ j, j < P.cellsOf e → w.cell? ((a.add (i * P.cellsOf e)).add j) = cs'[j]?) ∧ DataW.trod enc P w base sp held fuel' e cs' = some (d, q) := by
  rcases DataW.trod_slice ht h with ⟨_, hx⟩ | ⟨a, len, cap, elems, rest, n, _, rfl, hx, _, h1, _, h2, h3, h4, _⟩
  · cases hx
  · obtain ⟨hr, _⟩ := h4 (hsp _)
    simp only [Prod.mk.injEq, DataW.slice.injEq] at hx
    obtain ⟨⟨rfl, hx2⟩, _⟩ := hx
    have hrl : rest = [] := by simpa using hx2.symm
    subst hrl
    have hc : cap = len := by simp at hr; omega
    subst hc
    refine ⟨a, by simp [h2], fun i d hd => ?_⟩
    rw [List.getElem?_map, Option.map_eq_some_iff] at hd
    obtain ⟨x, hx, rfl⟩ := hd
    have hi : i < elems.length := (List.getElem?_eq_some_iff.1 hx).1
    have h5 := h3 i (by omega)
    rw [hx, Option.bind_eq_some_iff] at h5
    obtain ⟨cs', h6, h7⟩ := h5
    obtain ⟨_, h8, h9⟩ := World.cells?_some h6
    exact ⟨cs', n, x.2, h8, h9, h7⟩
theorem trod_f {sp : Nat → Bool} {fuel : Nat} {t : TypeId} {k : FloatKind} {cs : List Value} {x : DataW H × List MemPlace} (ht : P.underlying t = some (.float k)) (h : DataW.trod enc P w base sp held fuel t cs = some x) : ∃ b, cs = [.float k b] ∧ x = (.lit (.float k b), []) := by
  cases fuel with
  | zero => simp [DataW.trod] at h
  | succ n =>
    unfold DataW.trod at h
    rw [ht] at h
    split at h <;> simp_all
theorem trod_i {sp : Nat → Bool} {fuel : Nat} {t : TypeId} {ms : Array (String × TypeId)} {cs : List Value} {x : DataW H × List MemPlace} (ht : P.underlying t = some (.interface ms)) (h : DataW.trod enc P w base sp held fuel t cs = some x) : ∃ v, cs = [v] ∧ ifOk v := by
  cases fuel with
  | zero => simp [DataW.trod] at h
  | succ n =>
    unfold DataW.trod at h
    rw [ht] at h
    split at h <;> first
      | (simp_all; done)
      | exact ⟨_, rfl, .inl rfl⟩
      | exact ⟨_, rfl, .inr ⟨_, _, rfl⟩⟩
end
theorem var_at {w : World} {n : String} {d : DataW Unit} {g : Nat} {t : TypeId} (h : VarReads Tryd.prog w n d) (hg : Tryd.prog.globalNamed n = some g) (ht : (Tryd.prog.globals[g]?).map (·.type) = some t) :
    ∃ cs fuel p, (∀ i, w.cell? ⟨g, i, none⟩ = cs[i]?) ∧ (∃ tt fr, w.heap[g]? = some (.cells cs.toArray tt fr)) ∧ DataW.trod (fun _ => ()) Tryd.prog w 0 (fun _ => true) false fuel t cs = some (d, p) := by
  obtain ⟨g', t', cs, fuel, p, h1, h2, h3, h4⟩ := h
  obtain rfl := Option.some.inj (hg.symm.trans h1)
  obtain rfl := Option.some.inj (ht.symm.trans h2)
  refine ⟨cs.toList, fuel, p, fun i => by rw [World.var?_cell h1 h3 i, Array.getElem?_toList], ?_, h4⟩
  simp only [World.var?, h1, Option.bind_some] at h3
  split at h3
  · rename_i c tt fr hh
    cases h3
    exact ⟨tt, fr, by rw [hh]⟩
  · cases h3
theorem x8 : U8Extra Tryd.prog Tryd.laysValid_ren := ⟨by kernel_rfl, by kernel_rfl, by kernel_rfl, by kernel_rfl, by kernel_rfl, by kernel_rfl, by kernel_rfl⟩
theorem c146 : Tryd.prog.cellsOf 146 = 2 := by kernel_rfl
theorem c157 : Tryd.prog.cellsOf 157 = 2 := by kernel_rfl
theorem c1 : Tryd.prog.cellsOf 3 = 1 ∧ Tryd.prog.cellsOf 9 = 1 ∧ Tryd.prog.cellsOf 22 = 1 ∧ Tryd.prog.cellsOf 51 = 1 ∧ Tryd.prog.cellsOf 55 = 1 := ⟨by kernel_rfl, by kernel_rfl, by kernel_rfl, by kernel_rfl, by kernel_rfl⟩

theorem tabE_of {w : World} (h : VarReads Tryd.prog w "internal/strconv.pow10Tab" Go.Pinned.pow10Tab) : TabE w := by
  intro i r hr
  obtain ⟨cs, fuel, p, hc, _, hd⟩ := var_at (g := 11) (t := 147) h (by kernel_rfl) (by kernel_rfl)
  have hi : i < 696 := by rw [← Rnd.rows_len]; exact (List.getElem?_eq_some_iff.1 hr).1
  obtain ⟨fuel', d, q, h1, h2⟩ := array_elem Tryd.underlying147 hd i hi
  rw [List.getElem?_map, hr, Option.map_some, Option.some.injEq] at h1
  subst h1
  rw [c146] at h2
  have h3 := ints_of_struct (zs := [(r.1 : Int), (r.2 : Int)]) Tryd.underlying146 (fun j f hj => by
    match j, hj with
    | 0, hj => simp at hj; subst hj; exact ⟨Tryd.underlying55, rfl, c1.2.2.2.2⟩
    | 1, hj => simp at hj; subst hj; exact ⟨Tryd.underlying55, rfl, c1.2.2.2.2⟩
    | j + 2, hj => simp at hj) (by rw [c146]; rfl) h2
  have e0 := congrArg (·[0]?) h3
  have e1 := congrArg (·[1]?) h3
  simp only [List.getElem?_take, List.getElem?_drop] at e0 e1
  exact ⟨by rw [hc]; simpa using e0, by rw [hc]; simpa using e1⟩
theorem info_of {w : World} (h : VarReads Tryd.prog w "internal/strconv.float64info" Rows.laid_internal_strconv_float64info) :
    w.cell? ⟨7, 0, none⟩ = some (.int .u64 52) ∧ w.cell? ⟨7, 1, none⟩ = some (.int .u64 11) ∧ w.cell? ⟨7, 2, none⟩ = some (.int .i64 (-1023)) := by
  obtain ⟨cs, fuel, p, hc, _, hd⟩ := var_at (g := 7) (t := 104) h (by kernel_rfl) (by kernel_rfl)
  obtain ⟨y0, y1, y2, n, hx, hl, h0, h1, h2⟩ := Deep.trod_struct3 Tryd.underlying104 hd
  obtain ⟨z0, e0, rfl, _⟩ := DataW.trod_int Tryd.underlying51 h0
  obtain ⟨z1, e1, rfl, _⟩ := DataW.trod_int Tryd.underlying51 h1
  obtain ⟨z2, e2, rfl, _⟩ := DataW.trod_int Tryd.underlying3 h2
  simp only [Rows.laid_internal_strconv_float64info, Prod.mk.injEq, DataW.agg.injEq, List.cons.injEq, DataW.lit.injEq, Lit.int.injEq, true_and, and_true] at hx
  obtain ⟨⟨rfl, rfl, rfl⟩, _⟩ := hx
  rw [c1.2.2.2.1] at e0 e1
  rw [c1.1] at e2
  have f0 := congrArg (·[0]?) e0
  have f1 := congrArg (·[0]?) e1
  have f2 := congrArg (·[0]?) e2
  simp only [List.getElem?_take, List.getElem?_drop] at f0 f1 f2
  exact ⟨by rw [hc]; simpa using f0, by rw [hc]; simpa using f1, by rw [hc]; simpa using f2⟩
theorem p10_of {w : World} (h : VarReads Tryd.prog w "internal/strconv.float64pow10" Rows.laid_internal_strconv_float64pow10) :
    ∃ a cap, w.cell? ⟨10, 0, none⟩ = some (.slice (some a) 23 cap) ∧ ∀ i, i < 23 → w.cell? (a.add i) = some (.float .f64 (Rnd.p10.getD i 0)) := by
  obtain ⟨cs, fuel, p, hc, _, hd⟩ := var_at (g := 10) (t := 139) h (by kernel_rfl) (by kernel_rfl)
  rw [show (Rows.laid_internal_strconv_float64pow10 : DataW Unit) = .slice (Rnd.p10.map fun b => .lit (.float .f64 b)) [] from rfl] at hd
  obtain ⟨a, e, hall⟩ := slice_elem (fun _ => rfl) Tryd.underlying139 hd
  subst e
  refine ⟨a, _, hc 0, fun i hi => ?_⟩
  have hl : Rnd.p10.length = 23 := rfl
  obtain ⟨cs', fuel', q, h1, h2, h3⟩ := hall i (.lit (.float .f64 (Rnd.p10.getD i 0))) (by rw [List.getElem?_map, List.getElem?_eq_getElem (by omega), List.getD_eq_getElem?_getD, List.getElem?_eq_getElem (by omega)]; rfl)
  obtain ⟨b, rfl, hb⟩ := trod_f Tryd.underlying22 h3
  simp only [Prod.mk.injEq, DataW.lit.injEq, Lit.float.injEq, true_and] at hb
  rw [c1.2.2.1] at h2
  have h4 := h2 0 (by omega)
  rw [Addr.add_zero', Nat.mul_one] at h4
  rw [h4, hb.1]
  rfl
theorem opt_of {w : World} (h : VarReads Tryd.prog w "internal/strconv.optimize" Rows.laid_internal_strconv_optimize) : w.cell? ⟨6, 0, none⟩ = some (.bool true) := by
  obtain ⟨cs, fuel, p, hc, _, hd⟩ := var_at (g := 6) (t := 4) h (by kernel_rfl) (by kernel_rfl)
  obtain ⟨b, rfl, hb⟩ := DataW.trod_bool Tryd.underlying4 hd
  simp only [Rows.laid_internal_strconv_optimize, Prod.mk.injEq, DataW.lit.injEq, Lit.bool.injEq] at hb
  rw [hc, ← hb.1]
  rfl
theorem cheat_of {w : World} (h : VarReads Tryd.prog w "internal/strconv.leftcheats" Go.Pinned.leftcheats) :
    ∃ a cap, w.cell? ⟨13, 0, none⟩ = some (.slice (some a) 61 cap) ∧ ∀ k, k ≤ 60 → w.cell? (a.add (k * 2)) = some (.int .i64 (Dc.dK k)) ∧
    ∃ s : ByteArray, s.data.toList = (Dc.cheat k).2 ∧ w.cell? ⟨(a.add (k * 2)).block, (a.add (k * 2)).off + 1, none⟩ = some (.string s) := by
  obtain ⟨cs, fuel, p, hc, _, hd⟩ := var_at (g := 13) (t := 158) h (by kernel_rfl) (by kernel_rfl)
  have hl : Go.Pinned.cheatRows.length = 61 := by decide +kernel
  rw [show (Go.Pinned.leftcheats : DataW Unit) = .slice (Go.Pinned.cheatRows.map fun x => .agg [.lit (.int .i64 x.1), .lit (.string x.2)]) [] from rfl] at hd
  obtain ⟨a, e, hall⟩ := slice_elem (fun _ => rfl) Tryd.underlying158 hd
  subst e
  rw [List.length_map, hl] at hc
  refine ⟨a, _, hc 0, fun k hk => ?_⟩
  obtain ⟨cs', fuel', q, h1, h2, h3⟩ := hall k (.agg [.lit (.int .i64 (Dc.cheat k).1), .lit (.string (Dc.cheat k).2)]) (by
    unfold Dc.cheat
    rw [List.getElem?_map, List.getElem?_eq_getElem (by omega), List.getD_eq_getElem?_getD, List.getElem?_eq_getElem (by omega)]; rfl)
  obtain ⟨y0, y1, n, hx, _, h4, h5⟩ := ChangeShapes.trod_struct2 Tryd.underlying157 h3
  obtain ⟨z0, e0, rfl, _⟩ := DataW.trod_int Tryd.underlying3 h4
  obtain ⟨s, e1, rfl, _⟩ := DataW.trod_string Tryd.underlying9 h5
  simp only [Prod.mk.injEq, DataW.agg.injEq, List.cons.injEq, DataW.lit.injEq, Lit.int.injEq, Lit.string.injEq, true_and, and_true] at hx
  obtain ⟨⟨hz, hs⟩, _⟩ := hx
  rw [c1.1] at e0
  rw [c1.2.1] at e1
  have f0 := congrArg (·[0]?) e0
  have f1 := congrArg (·[0]?) e1
  simp only [List.getElem?_take, List.getElem?_drop] at f0 f1
  rw [c157] at h2
  have g0 := h2 0 (by omega)
  have g1 := h2 1 (by omega)
  rw [Addr.add_zero'] at g0
  rw [Addr.add_succ'] at g1
  refine ⟨?_, s, hs.symm, ?_⟩
  · rw [g0]
    unfold Dc.dK
    rw [hz]
    simpa using f0
  · refine Eq.trans ?_ (g1.trans (by simpa using f1))
    rfl
theorem pt_of {w : World} (h : VarReads Tryd.prog w "internal/strconv.powtab" Rows.laid_internal_strconv_powtab) :
    ∃ a cap, w.cell? ⟨9, 0, none⟩ = some (.slice (some a) 9 cap) ∧ ∀ i, i < 9 → w.cell? (a.add i) = some (.int .i64 (Dc.pt.getD i 1)) := by
  obtain ⟨cs, fuel, p, hc, _, hd⟩ := var_at (g := 9) (t := 36) h (by kernel_rfl) (by kernel_rfl)
  rw [show (Rows.laid_internal_strconv_powtab : DataW Unit) = .slice (Dc.pt.map fun (b : Nat) => .lit (.int .i64 b)) [] from rfl] at hd
  obtain ⟨a, e, hall⟩ := slice_elem (fun _ => rfl) Tryd.underlying36 hd
  subst e
  refine ⟨a, _, hc 0, fun i hi => ?_⟩
  have hl : Dc.pt.length = 9 := rfl
  obtain ⟨cs', fuel', q, h1, h2, h3⟩ := hall i (.lit (.int .i64 (Dc.pt.getD i 1))) (by rw [List.getElem?_map, List.getElem?_eq_getElem (by omega), List.getD_eq_getElem?_getD, List.getElem?_eq_getElem (by omega)]; rfl)
  obtain ⟨b, rfl, hb, _⟩ := DataW.trod_int Tryd.underlying3 h3
  simp only [Prod.mk.injEq, DataW.lit.injEq, Lit.int.injEq, true_and] at hb
  rw [c1.1] at h2
  have h4 := h2 0 (by omega)
  rw [Addr.add_zero', Nat.mul_one] at h4
  rw [h4, hb.1]
  rfl
theorem pun_of {w : World} (h : VarReads Tryd.prog w "scriptsminified/spec.puncts" Rows.laid_scriptsminified_spec_puncts) : PunE w := by
  obtain ⟨cs, fuel, p, hc, ⟨tt, fr, hh⟩, hd⟩ := var_at (g := 2) (t := 69) h (by kernel_rfl) (by kernel_rfl)
  have h69 : Tryd.prog.cellsOf 69 = 57 := by kernel_rfl
  obtain ⟨xs, m, _, hx, hl, hxl, _⟩ := DataW.trod_array Tryd.underlying69 hd
  refine ⟨cs.toArray, tt, fr, hh, by simpa [h69] using hl, fun k hk => ?_⟩
  obtain ⟨fuel', d, q, h1, h2⟩ := array_elem (ds := xs.map (·.1)) (p := xs.flatMap (·.2)) Tryd.underlying69 (by rw [hd, hx]) k hk
  rw [c1.2.1] at h2
  obtain ⟨s, e, hs, _⟩ := DataW.trod_string Tryd.underlying9 h2
  have hsz : (match (Rows.laid_scriptsminified_spec_puncts : DataW Unit) with
    | .agg l => l.all fun | .lit (.string b) => decide (1 ≤ b.length ∧ b.length ≤ 4) | _ => false
    | _ => false) = true := by kernel_rfl
  have hx1 : Rows.laid_scriptsminified_spec_puncts = DataW.agg (xs.map (·.1)) := congrArg Prod.fst hx
  rw [hx1] at hsz
  simp only [Prod.mk.injEq] at hs
  have h3 := List.all_eq_true.1 hsz d (List.mem_of_getElem? h1)
  rw [hs.1] at h3
  have h4 := of_decide_eq_true h3
  refine ⟨s, ?_, ?_⟩
  · have f0 := congrArg (·[0]?) e
    simp only [List.getElem?_take, List.getElem?_drop] at f0
    simpa using f0
  · simpa using h4
theorem err_of {w : World} {n : String} {g : Nat} {d : DataW Unit} (h : VarReads Tryd.prog w n d) (hg : Tryd.prog.globalNamed n = some g) (ht : (Tryd.prog.globals[g]?).map (·.type) = some 63) : ∃ e, w.cell? ⟨g, 0, none⟩ = some e ∧ ifOk e := by
  obtain ⟨cs, fuel, p, hc, _, hd⟩ := var_at h hg ht
  obtain ⟨v, rfl, hv⟩ := trod_i Tryd.underlying63 hd
  exact ⟨v, hc 0, hv⟩
/-- what the row's list gives -/
theorem tabs_of {w : World} (h : laidMet Tryd.prog Rows.fnNumberRow.laid w) : Tabs w := by
  have r : ∀ {n : String} {d : DataW Unit}, (n, d) ∈ Rows.fnNumberRow.laid → VarReads Tryd.prog w n d := fun hm => Lib.laidMet.reads h hm
  obtain ⟨e3, h3, o3⟩ := err_of (g := 3) (r (n := "strconv.ErrSyntax") (d := Rows.laid_strconv_ErrSyntax) (by simp [Rows.fnNumberRow])) (by kernel_rfl) (by kernel_rfl)
  obtain ⟨e4, h4, o4⟩ := err_of (g := 4) (r (n := "strconv.ErrRange") (d := Rows.laid_strconv_ErrRange) (by simp [Rows.fnNumberRow])) (by kernel_rfl) (by kernel_rfl)
  have hi := info_of (r (by simp [Rows.fnNumberRow]))
  refine ⟨utf8Tabs_of_readsT (U8Types.of196 Tryd.laysValid) x8 ?_ ?_, ⟨e3, e4, h3, h4, o3, o4⟩, ⟨tabE_of (r (by simp [Rows.fnNumberRow, Rows.laid_internal_strconv_pow10Tab])), ⟨hi.1, p10_of (r (by simp [Rows.fnNumberRow]))⟩, opt_of (r (by simp [Rows.fnNumberRow]))⟩,
    ⟨cheat_of (r (by simp [Rows.fnNumberRow, Rows.laid_internal_strconv_leftcheats])), pt_of (r (by simp [Rows.fnNumberRow])), hi⟩, pun_of (r (by simp [Rows.fnNumberRow]))⟩
  · exact Pinned.utf8First_eq ▸ r (n := "unicode/utf8.first") (d := Go.Pinned.utf8First) (by simp [Rows.fnNumberRow, Rows.laid_unicode_utf8_first])
  · exact (show (Rows.laid_unicode_utf8_acceptRanges : DataW Unit) = acceptData by kernel_rfl) ▸ r (n := "unicode/utf8.acceptRanges") (d := Rows.laid_unicode_utf8_acceptRanges) (by simp [Rows.fnNumberRow])
end Go.Proofs.YtblphppdfiipfaaDoor
namespace Go.Proofs.YtblphppdfiipfaaDoor
open Go.ChangeShapes Go.WideShapes Go.ChangeAt Go.RowKit Go.Lib
set_option maxRecDepth 100000

theorem own : ownKnob Tryd.prog.godebug = none := by kernel_rfl
theorem plainLaid (W : World) : laidMetH Tryd.prog Rows.fnNumberRow.laid W ↔ laidMet Tryd.prog Rows.fnNumberRow.laid W := by
  rw [MakeChecks.laidMetH_plain _ _ _ (by kernel_rfl)]
theorem lifted (os : Os) (started : os.Started) (H : Type) (enc : TypeId × Value → H) :
    ReturnsInHanded {} Tryd.checked os 3 .any (fun w args => (Rows.fnNumberSpec.pre enc Tryd.prog Tryd.f3 [] false w args ∧ laidMetH Tryd.prog Rows.fnNumberRow.laid w) ∧ sizedMet enc Tryd.prog Tryd.f3 (OpenSpec.ofChange Rows.fnNumberSpec) false w args)
      (Rows.fnNumberSpec.post enc Tryd.prog Tryd.f3 false true false false) := by
  refine returnsInHanded_of_change_and (C := Tryd.checked) (X := fun w _ => laidMetH Tryd.prog Rows.fnNumberRow.laid w) (fun _ _ _ hh h => h.of_heap hh) own started (by kernel_rfl) Tryd.func3
    (ChangeSpec.witness_shaped (enc := enc) (C := Tryd.checked) (os := os) (X := fun w _ => laidMetH Tryd.prog Rows.fnNumberRow.laid w) false (World.laidAll Tryd.prog os Rows.fnNumberRow.laid) #[.string .empty] 8 (World.laidAll_os _ _ _)
      (World.shaped_of_ZipB (by kernel_rfl) (by kernel_rfl)) (by kernel_rfl) (by kernel_rfl) (by kernel_rfl)
      ((plainLaid _).2 (laidMet_laidAll _ (by kernel_rfl) (by kernel_rfl)))) ?_
  intro W base args ds gs before hval0 hW _ _ hL _
  have hval : ∀ (j : Nat) t v, Tryd.f3.params[j]? = some t → args[j]? = some v → Value.okWide Tryd.prog W .any base t v := hval0
  have hW' := hW
  obtain ⟨p, q, hA0, hV, rfl, _, _⟩ := hW
  have hA : DataW.TrodAll enc Tryd.prog W 0 (fun _ => true) true Tryd.f3.params.toList args.toList ds p := hA0
  rw [Tryd.params3] at hA hval
  obtain ⟨v0, d0, rfl, rfl, h0⟩ := trodAll_one hA
  obtain ⟨rfl, rfl⟩ := trodVars_none hV
  obtain ⟨s, rfl, rfl, rfl, hs⟩ := ChangeMaps.open_string Tryd.underlying9 (hval 0 9 v0 rfl rfl) h0
  simp only [List.append_nil] at hW'
  refine (fn_any s W (tabs_of ((plainLaid W).1 hL))).mono fun e W' ⟨he, hb⟩ => ?_
  subst he
  exact ⟨_, rfl, _, _, _, [], [], [], hW', trodAll_mk1 (shut_bool Tryd.underlying4 _), trodAll_mk1 (ChangeMaps.shut_string Tryd.underlying9 hs), rfl, hb.frame _, fun h => by cases h⟩
theorem said : Rows.FnNumberSaid :=
  OpenClaim.holds_of_wide 3 Tryd.f3 rfl rfl rfl rfl rfl rfl rfl ⟨rfl, rfl, rfl, rfl, rfl⟩ rfl rfl rfl rfl rfl (by kernel_rfl) Tryd.func3 (by kernel_rfl)
    (of_decide_eq_true (by kernel_rfl)) (by unfold Func.isWrapper; first | (rw [if_pos (by decide +kernel)]; kernel_rfl) | (rw [if_neg (by decide +kernel)]; exact ⟨rfl, rfl⟩))
    (fun os started H enc _ => lifted os started H enc)
theorem plain (f : FuncId) (fn : Func) (hf : Tryd.pinned.checked.prog.funcNamed "scriptsminified/laws.FnNumber" = some f) (hfn : Tryd.pinned.checked.prog.funcs[f]? = some fn) :
    true = Tryd.pinned.checked.prog.looks [] ∧ ∀ (j : Nat) t, fn.params[j]? = some t → Tryd.pinned.checked.prog.wantsStandIn t = false := by
  obtain rfl : f = 3 := Option.some.inj ((show Tryd.prog.funcNamed "scriptsminified/laws.FnNumber" = some 3 by kernel_rfl).symm.trans hf) |>.symm
  obtain rfl : fn = Tryd.f3 := (Option.some.inj (Tryd.func3.symm.trans hfn)).symm
  refine ⟨by kernel_rfl, fun j t ht => ?_⟩
  rw [Tryd.params3] at ht
  obtain rfl : t = 9 := by simpa using Array.mem_of_getElem? ht
  exact (show Tryd.prog.wantsStandIn 9 = false by kernel_rfl)
/-- the card -/
theorem card_holds : Rows.FnNumberCardSaid :=
  Claim7.holds_tied_plain_at .later [] _ _ _ _ said (fun _ h => by cases h) (by kernel_rfl) (fun _ h => by cases h) fnNumber_row_tie rfl ⟨rfl, rfl⟩ (by kernel_rfl) rfl plain (by kernel_rfl)
#print axioms card_holds
end Go.Proofs.YtblphppdfiipfaaDoor
