/- Which bytes begin a name. Conditions: none. -/
import Derived.Test.YtblphppdfiipfaaDoorCEscape
import Derived.Test.YtblphppdfiipfaaDoorCShelf
namespace Go.Proofs.YtblphppdfiipfaaDoor
open Go.RowKit
set_option maxRecDepth 100000

/-- is it a letter? (not opened by the walk) -/
def lt (c : Int) : Bool := decide ((97 ≤ c ∧ c ≤ 122) ∨ (65 ≤ c ∧ c ≤ 90) ∨ c = 95 ∨ c = 36)
set_option maxHeartbeats 1000000 in
theorem isLetter_any (c : Int) (w : World) : Calls Tryd.prog 17 #[.int .u8 c] w fun e w' => e = .returned (.bool (lt c)) ∧ w' = w := by
  have key : ∀ b, lt c = b → Calls Tryd.prog 17 #[.int .u8 c] w fun e w' => e = .returned (.bool b) ∧ w' = w := by
    intro b hb
    have HB := Lib.hid hb
    clear hb
    by_cases h1 : 97 ≤ c
    all_goals by_cases h2 : c ≤ 122
    all_goals by_cases h3 : 65 ≤ c
    all_goals by_cases h4 : c ≤ 90
    all_goals by_cases h5 : c = 95
    all_goals by_cases h6 : c = 36
    all_goals first
      | (exfalso; omega)
      | (have g5 : (c == 95) = decide (c = 95) := by rw [Bool.eq_iff_iff]; simp
         have g6 : (c == 36) = decide (c = 36) := by rw [Bool.eq_iff_iff]; simp
         simp only [h5, h6, decide_true, decide_false] at g5 g6
         have H5 := Lib.hid h5
         have H6 := Lib.hid h6
         clear h5 h6
         go_enter Tryd.func17, Tryd.ntmps17
         go_wp2
         go_ret
         refine ⟨?_, rfl⟩
         have q5 := H5.out; have q6 := H6.out
         rw [← HB.out]
         first | (simp [lt]; omega) | (simp [lt, *]; done) | trace_state)
  exact key _ rfl
end Go.Proofs.YtblphppdfiipfaaDoor
