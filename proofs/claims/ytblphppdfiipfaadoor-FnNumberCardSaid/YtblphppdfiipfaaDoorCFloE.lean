/- What readFloat makes of a text, as a fold. Conditions: none. -/
import Derived.Test.YtblphppdfiipfaaDoorCFloD
import Derived.Test.YtblphppdfiipfaaDoorCSpace
import Derived.WalkMore
import Derived.ScopeJumps
namespace Go.Proofs.YtblphppdfiipfaaDoor
open Go.RowKit
set_option maxRecDepth 100000

/-- a byte of the text, as a number -/
def bt (s : ByteArray) (i : Nat) : Nat := if h : i < s.size then s[i].toNat else 0
theorem bt_eq {s : ByteArray} {i : Nat} (h : i < s.size) : bt s i = s[i].toNat := dif_pos h

/-- what readFloat holds while it reads digits -/
structure MS where
  m : Nat
  nd : Nat
  k : Nat
  dp : Int
  dot : Bool
  dig : Bool
  tr : Bool
def MS.step (x : MS) (c : Nat) : MS :=
  if c = 46 then ⟨x.m, x.nd, x.k, x.nd, true, x.dig, x.tr⟩
  else if c = 48 ∧ x.nd = 0 then ⟨x.m, x.nd, x.k, x.dp - 1, x.dot, true, x.tr⟩
  else if x.k < 19 then ⟨x.m * 10 + (c - 48), x.nd + 1, x.k + 1, x.dp, x.dot, true, x.tr⟩
  else ⟨x.m, x.nd + 1, x.k, x.dp, x.dot, true, if c = 48 then x.tr else true⟩
def mst (s : ByteArray) : Nat → MS
  | 0 => ⟨0, 0, 0, 0, false, false, false⟩
  | i + 1 => (mst s i).step (bt s i)
/-- the exponent's digits -/
def est (s : ByteArray) (r : Nat) : Nat → Nat
  | 0 => 0
  | n + 1 => if est s r n < 10000 then est s r n * 10 + (bt s (r + n) - 48) else est s r n

def MS.Ok (x : MS) (i : Nat) : Prop := x.m < 10 ^ x.k ∧ x.k ≤ 19 ∧ x.nd ≤ i ∧ -(i : Int) ≤ x.dp ∧ x.dp ≤ i
theorem step_b {x : MS} {i c : Nat} (h : x.Ok i) (hc : (48 ≤ c ∧ c ≤ 57) ∨ c = 46) : (x.step c).Ok (i + 1) := by
  obtain ⟨h1, h2, h3, h4, h5⟩ := h
  unfold MS.step
  split
  · exact ⟨h1, h2, by show x.nd ≤ i + 1; omega, by show -((i + 1 : Nat) : Int) ≤ (x.nd : Int); omega, by show (x.nd : Int) ≤ ((i + 1 : Nat) : Int); omega⟩
  · split
    · exact ⟨h1, h2, by show x.nd ≤ i + 1; omega, by show -((i + 1 : Nat) : Int) ≤ x.dp - 1; omega, by show x.dp - 1 ≤ ((i + 1 : Nat) : Int); omega⟩
    · split
      · refine ⟨?_, by show x.k + 1 ≤ 19; omega, by show x.nd + 1 ≤ i + 1; omega, by show -((i + 1 : Nat) : Int) ≤ x.dp; omega, by show x.dp ≤ ((i + 1 : Nat) : Int); omega⟩
        show x.m * 10 + (c - 48) < 10 ^ (x.k + 1)
        rw [Nat.pow_succ]
        omega
      · exact ⟨h1, h2, by show x.nd + 1 ≤ i + 1; omega, by show -((i + 1 : Nat) : Int) ≤ x.dp; omega, by show x.dp ≤ ((i + 1 : Nat) : Int); omega⟩
theorem mst_b (s : ByteArray) : ∀ i, (∀ j, j < i → (48 ≤ bt s j ∧ bt s j ≤ 57) ∨ bt s j = 46) → (mst s i).Ok i
  | 0, _ => by simp [mst, MS.Ok]
  | i + 1, h => step_b (mst_b s i fun j hj => h j (by omega)) (h i (by omega))

/-- digits and at most one point, up to q -/
def MOk (s : ByteArray) (q : Nat) : Prop := (∀ i, i < q → (48 ≤ bt s i ∧ bt s i ≤ 57) ∨ bt s i = 46) ∧ (∀ i, i < q → bt s i = 46 → (mst s i).dot = false) ∧ (mst s q).dig = true

theorem lower_any (c : Int) (w : World) : Calls Tryd.prog 41 #[.int .u8 c] w fun e w' => e = .returned (.int .u8 (Go.bits .or .u8 c 32)) ∧ w' = w := by
  go_enter Tryd.func41, Tryd.ntmps41
  go_wp2
  go_ret
  exact ⟨rfl, rfl⟩
/-- a byte that is no letter i, n or sign ahead -/
theorem special_any (s : ByteArray) (w : World) (h : 0 < s.size) (hc : (48 ≤ bt s 0 ∧ bt s 0 ≤ 57) ∨ bt s 0 = 46) :
    Calls Tryd.prog 54 #[.string s] w fun e w' => e = .returned (.tuple #[.float .f64 0, .int .i64 0, .bool false]) ∧ w' = w := by
  rw [bt_eq h] at hc
  have hz : ((s.size : Int) == 0) = false := beq_false_of_ne (by omega)
  obtain ⟨c, hcc⟩ : ∃ c : Nat, s[0].toNat = c := ⟨_, rfl⟩
  rw [hcc] at hc
  have e1 : ((c : Int) == 43) = false := by simp; omega
  have e2 : ((c : Int) == 45) = false := by simp; omega
  have e3 : ((c : Int) == 105) = false := by simp; omega
  have e4 : ((c : Int) == 73) = false := by simp; omega
  have e5 : ((c : Int) == 110) = false := by simp; omega
  have e6 : ((c : Int) == 78) = false := by simp; omega
  go_enter Tryd.func54, Tryd.ntmps54
  go_wp2
  go_ret3
  exact ⟨rfl, rfl⟩

def F55 (s : ByteArray) (i m nd k : Nat) (dp : Int) (dot dig tr : Bool)  : (Nat → Value) → Act := FG 253 [(0, .string s), (2, .int .u64 m), (3, .int .i64 0), (4, .bool false), (5, .bool tr), (6, .bool false), (7, .int .i64 i), (8, .bool false), (9, .bool false), (10, .int .u64 10), (11, .int .i64 19), (12, .int .u8 101), (13, .bool dot), (14, .bool dig), (15, .int .i64 nd), (16, .int .i64 k), (17, .int .i64 dp)]
theorem F55_lit (s : ByteArray) (i m nd k : Nat) (dp : Int) (dot dig tr : Bool)  (u : Nat → Value) : F55 s  i m nd k  dp  dot dig tr u = { tmps := #[.string s, u 1, .int .u64 m, .int .i64 0, .bool false, .bool tr, .bool false, .int .i64 i, .bool false, .bool false, .int .u64 10, .int .i64 19, .int .u8 101, .bool dot, .bool dig, .int .i64 nd, .int .i64 k, .int .i64 dp, u 18, u 19, u 20, u 21, u 22, u 23, u 24, u 25, u 26, u 27, u 28, u 29, u 30, u 31, u 32, u 33, u 34, u 35, u 36, u 37, u 38, u 39, u 40, u 41, u 42, u 43, u 44, u 45, u 46, u 47, u 48, u 49, u 50, u 51, u 52, u 53, u 54, u 55, u 56, u 57, u 58, u 59, u 60, u 61, u 62, u 63, u 64, u 65, u 66, u 67, u 68, u 69, u 70, u 71, u 72, u 73, u 74, u 75, u 76, u 77, u 78, u 79, u 80, u 81, u 82, u 83, u 84, u 85, u 86, u 87, u 88, u 89, u 90, u 91, u 92, u 93, u 94, u 95, u 96, u 97, u 98, u 99, u 100, u 101, u 102, u 103, u 104, u 105, u 106, u 107, u 108, u 109, u 110, u 111, u 112, u 113, u 114, u 115, u 116, u 117, u 118, u 119, u 120, u 121, u 122, u 123, u 124, u 125, u 126, u 127, u 128, u 129, u 130, u 131, u 132, u 133, u 134, u 135, u 136, u 137, u 138, u 139, u 140, u 141, u 142, u 143, u 144, u 145, u 146, u 147, u 148, u 149, u 150, u 151, u 152, u 153, u 154, u 155, u 156, u 157, u 158, u 159, u 160, u 161, u 162, u 163, u 164, u 165, u 166, u 167, u 168, u 169, u 170, u 171, u 172, u 173, u 174, u 175, u 176, u 177, u 178, u 179, u 180, u 181, u 182, u 183, u 184, u 185, u 186, u 187, u 188, u 189, u 190, u 191, u 192, u 193, u 194, u 195, u 196, u 197, u 198, u 199, u 200, u 201, u 202, u 203, u 204, u 205, u 206, u 207, u 208, u 209, u 210, u 211, u 212, u 213, u 214, u 215, u 216, u 217, u 218, u 219, u 220, u 221, u 222, u 223, u 224, u 225, u 226, u 227, u 228, u 229, u 230, u 231, u 232, u 233, u 234, u 235, u 236, u 237, u 238, u 239, u 240, u 241, u 242, u 243, u 244, u 245, u 246, u 247, u 248, u 249, u 250, u 251, u 252], defers := [] } := by kernel_rfl
theorem F55_at (s : ByteArray) (i m nd k : Nat) (dp : Int) (dot dig tr : Bool)  {L : List Value} (hl : L.length = 253) (hn : NmOk L [(0, .string s), (2, .int .u64 m), (3, .int .i64 0), (4, .bool false), (5, .bool tr), (6, .bool false), (7, .int .i64 i), (8, .bool false), (9, .bool false), (10, .int .u64 10), (11, .int .i64 19), (12, .int .u8 101), (13, .bool dot), (14, .bool dig), (15, .int .i64 nd), (16, .int .i64 k), (17, .int .i64 dp)]) : (F55 s  i m nd k  dp  dot dig tr fun k => (Act.mk L.toArray []).tmps.getD k undef) = { tmps := L.toArray, defers := [] } := FG_at hl hn
def F55e (s : ByteArray) (i m k : Nat) (dp sg : Int) (e : Nat) (tr : Bool)  : (Nat → Value) → Act := FG 253 [(0, .string s), (2, .int .u64 m), (3, .int .i64 0), (4, .bool false), (5, .bool tr), (6, .bool false), (7, .int .i64 i), (8, .bool false), (9, .bool false), (10, .int .u64 10), (12, .int .u8 101), (16, .int .i64 k), (17, .int .i64 dp), (19, .int .i64 sg), (20, .int .i64 e)]
theorem F55e_lit (s : ByteArray) (i m k : Nat) (dp sg : Int) (e : Nat) (tr : Bool)  (u : Nat → Value) : F55e s  i m k  dp sg  e  tr u = { tmps := #[.string s, u 1, .int .u64 m, .int .i64 0, .bool false, .bool tr, .bool false, .int .i64 i, .bool false, .bool false, .int .u64 10, u 11, .int .u8 101, u 13, u 14, u 15, .int .i64 k, .int .i64 dp, u 18, .int .i64 sg, .int .i64 e, u 21, u 22, u 23, u 24, u 25, u 26, u 27, u 28, u 29, u 30, u 31, u 32, u 33, u 34, u 35, u 36, u 37, u 38, u 39, u 40, u 41, u 42, u 43, u 44, u 45, u 46, u 47, u 48, u 49, u 50, u 51, u 52, u 53, u 54, u 55, u 56, u 57, u 58, u 59, u 60, u 61, u 62, u 63, u 64, u 65, u 66, u 67, u 68, u 69, u 70, u 71, u 72, u 73, u 74, u 75, u 76, u 77, u 78, u 79, u 80, u 81, u 82, u 83, u 84, u 85, u 86, u 87, u 88, u 89, u 90, u 91, u 92, u 93, u 94, u 95, u 96, u 97, u 98, u 99, u 100, u 101, u 102, u 103, u 104, u 105, u 106, u 107, u 108, u 109, u 110, u 111, u 112, u 113, u 114, u 115, u 116, u 117, u 118, u 119, u 120, u 121, u 122, u 123, u 124, u 125, u 126, u 127, u 128, u 129, u 130, u 131, u 132, u 133, u 134, u 135, u 136, u 137, u 138, u 139, u 140, u 141, u 142, u 143, u 144, u 145, u 146, u 147, u 148, u 149, u 150, u 151, u 152, u 153, u 154, u 155, u 156, u 157, u 158, u 159, u 160, u 161, u 162, u 163, u 164, u 165, u 166, u 167, u 168, u 169, u 170, u 171, u 172, u 173, u 174, u 175, u 176, u 177, u 178, u 179, u 180, u 181, u 182, u 183, u 184, u 185, u 186, u 187, u 188, u 189, u 190, u 191, u 192, u 193, u 194, u 195, u 196, u 197, u 198, u 199, u 200, u 201, u 202, u 203, u 204, u 205, u 206, u 207, u 208, u 209, u 210, u 211, u 212, u 213, u 214, u 215, u 216, u 217, u 218, u 219, u 220, u 221, u 222, u 223, u 224, u 225, u 226, u 227, u 228, u 229, u 230, u 231, u 232, u 233, u 234, u 235, u 236, u 237, u 238, u 239, u 240, u 241, u 242, u 243, u 244, u 245, u 246, u 247, u 248, u 249, u 250, u 251, u 252], defers := [] } := by kernel_rfl
theorem F55e_at (s : ByteArray) (i m k : Nat) (dp sg : Int) (e : Nat) (tr : Bool)  {L : List Value} (hl : L.length = 253) (hn : NmOk L [(0, .string s), (2, .int .u64 m), (3, .int .i64 0), (4, .bool false), (5, .bool tr), (6, .bool false), (7, .int .i64 i), (8, .bool false), (9, .bool false), (10, .int .u64 10), (12, .int .u8 101), (16, .int .i64 k), (17, .int .i64 dp), (19, .int .i64 sg), (20, .int .i64 e)]) : (F55e s  i m k  dp sg  e  tr fun k => (Act.mk L.toArray []).tmps.getD k undef) = { tmps := L.toArray, defers := [] } := FG_at hl hn

theorem or32 (c : Nat) (hc : c < 256) : Go.bits .or .u8 (c : Int) 32 = ((c ||| 32 : Nat) : Int) := by
  have : ∀ c : Fin 256, Go.bits .or .u8 ((c.val : Nat) : Int) 32 = ((c.val ||| 32 : Nat) : Int) := by decide +kernel
  exact this ⟨c, hc⟩
theorem low120 (c : Nat) (hc : (48 ≤ c ∧ c ≤ 57) ∨ c = 46 ∨ c = 69 ∨ c = 101) : (Go.bits .or .u8 (c : Int) 32 == 120) = false := by
  have : ∀ c : Fin 256, ((48 ≤ c.val ∧ c.val ≤ 57) ∨ c.val = 46 ∨ c.val = 69 ∨ c.val = 101) → (Go.bits .or .u8 ((c.val : Nat) : Int) 32 == 120) = false := by decide +kernel
  exact this ⟨c, by omega⟩ hc
theorem low101 (c : Nat) (hc : c = 69 ∨ c = 101) : (Go.bits .or .u8 (c : Int) 32 == 101) = true := by
  rcases hc with rfl | rfl <;> decide
theorem est_b (s : ByteArray) (r : Nat) : ∀ n, (∀ j, j < n → bt s (r + j) ≤ 57) → est s r n ≤ 99999
  | 0, _ => by simp [est]
  | n + 1, h => by
    have h1 := est_b s r n fun j hj => h j (by omega)
    have h2 := h n (by omega)
    unfold est
    split <;> omega

theorem results_tmp7 {fn : Func} {a b c d e f g : Tmp} (h : fn.results = #[.tmp a, .tmp b, .tmp c, .tmp d, .tmp e, .tmp f, .tmp g]) (tmps : Array Value) (P : Program) (w : World) :
    (results fn tmps).run P w = .ok (.tuple #[tmps.getD a undef, tmps.getD b undef, tmps.getD c undef, tmps.getD d undef, tmps.getD e undef, tmps.getD f undef, tmps.getD g undef]) w := by
  simp [results, h]

def RfPost (s : ByteArray) (m : Nat) (ex : Int) (tr : Bool) (w : World) (e : Ending) (w' : World) : Prop :=
  e = .returned (.tuple #[.int .u64 m, .int .i64 ex, .bool false, .bool tr, .bool false, .int .i64 s.size, .bool true]) ∧ w' = w
/-- the exponent that readFloat gives -/
def rfE (x : MS) (ex : Int) : Int := if x.m = 0 then 0 else (if x.dot then x.dp else x.nd) + ex - x.k

/-- the exponent behind the digits: its first digit is at r -/
def EOk (s : ByteArray) (q : Nat) (ex : Int) : Prop :=
  (q = s.size ∧ ex = 0) ∨ (q < s.size ∧ (bt s q = 69 ∨ bt s q = 101) ∧ ∃ r sg, r < s.size ∧ q < r ∧ (∀ i, r ≤ i → i < s.size → 48 ≤ bt s i ∧ bt s i ≤ 57) ∧ ex = sg * est s r (s.size - r) ∧
    ((r = q + 1 ∧ sg = 1) ∨ (r = q + 2 ∧ bt s (q + 1) = 43 ∧ sg = 1) ∨ (r = q + 2 ∧ bt s (q + 1) = 45 ∧ sg = -1)))

def EK0 (s : ByteArray) (q : Nat) (ex : Int) : Prop := q = s.size ∧ ex = 0
def EK1 (s : ByteArray) (q : Nat) (ex : Int) : Prop := q < s.size ∧ (bt s q = 69 ∨ bt s q = 101) ∧ ∃ r sg, r < s.size ∧ q < r ∧ (∀ i, r ≤ i → i < s.size → 48 ≤ bt s i ∧ bt s i ≤ 57) ∧ ex = sg * est s r (s.size - r) ∧ (r = q + 1 ∧ sg = 1)
def EK2 (s : ByteArray) (q : Nat) (ex : Int) : Prop := q < s.size ∧ (bt s q = 69 ∨ bt s q = 101) ∧ ∃ r sg, r < s.size ∧ q < r ∧ (∀ i, r ≤ i → i < s.size → 48 ≤ bt s i ∧ bt s i ≤ 57) ∧ ex = sg * est s r (s.size - r) ∧ (r = q + 2 ∧ bt s (q + 1) = 43 ∧ sg = 1)
def EK3 (s : ByteArray) (q : Nat) (ex : Int) : Prop := q < s.size ∧ (bt s q = 69 ∨ bt s q = 101) ∧ ∃ r sg, r < s.size ∧ q < r ∧ (∀ i, r ≤ i → i < s.size → 48 ≤ bt s i ∧ bt s i ≤ 57) ∧ ex = sg * est s r (s.size - r) ∧ (r = q + 2 ∧ bt s (q + 1) = 45 ∧ sg = -1)
end Go.Proofs.YtblphppdfiipfaaDoor
