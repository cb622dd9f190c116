/-
  The law FnSameAttr outside its bounds: where a value is longer than 4096 bytes, or a type is not from 0 to 65535, the law returns true and says nothing.
  Conditions: those of each case.
-/
import Derived.Test.YtdinlhibglkgpaaSameD
namespace Go.Proofs.Ytdinlhibglkgpaa.Same
open Go.RowKit
set_option linter.unusedVariables false
set_option linter.unusedSimpArgs false

/-- The first value is too long for any statement. -/
theorem law_long1 (ta tb : Int) (A A' : Option Addr) (n c n' c' : Nat) (w : World) (h1 : 2147483647 < n) :
    Calls Try.prog 4 #[.agg #[.int .i64 ta, .slice A n c], .agg #[.int .i64 tb, .slice A' n' c']] w fun e w' => e = .returned (.bool true) ∧ Below w.heap.size w w' := by
  have HS := two_start0 ta A n c tb A' n' c' w
  go_enter Try.func4, Try.ntmps4
  go_wp2_with (first
    | (go_at_call 6
       (with_reducible refine (fits_no ta A n c _ h1).mono ?_)
       rintro e w1 ⟨rfl, k1⟩
       have hS1 : Hid (Below w.heap.size w w1) := two_below (two_keep HS k1)))
  go_ret
  exact ⟨rfl, hS1.out⟩

/-- The second value is. -/
theorem law_long2 (ta tb : Int) (A A' : Option Addr) (n c n' c' : Nat) (w : World) (h1 : n ≤ 2147483647) (h2 : 2147483647 < n') :
    Calls Try.prog 4 #[.agg #[.int .i64 ta, .slice A n c], .agg #[.int .i64 tb, .slice A' n' c']] w fun e w' => e = .returned (.bool true) ∧ Below w.heap.size w w' := by
  have HS := two_start0 ta A n c tb A' n' c' w
  go_enter Try.func4, Try.ntmps4
  go_wp2_with (first
    | (go_at_call 6
       have q := hS1
       (with_reducible refine (fits_no tb A' n' c' _ h2).mono ?_)
       rintro e w2 ⟨rfl, k2⟩
       have hS2 : Hid (Below w.heap.size w w2) := two_below (two_keep hS1.out k2))
    | (go_at_call 6
       (with_reducible refine (fits_yes ta A n c _ h1).mono ?_)
       rintro e w1 ⟨rfl, k1⟩
       have hS1 : Hid (TwoSt w.heap.size ta A n c tb A' n' c' w w1) := two_keep HS k1
       have k1' := hS1.out
       obtain ⟨q0, q1, q2, q3, _, _⟩ := k1'))
  go_ret
  exact ⟨rfl, hS2.out⟩

set_option maxHeartbeats 1000000 in
/-- A bound of the law's own is passed. -/
theorem law_outside (ta tb : Int) (A A' : Option Addr) (n c n' c' : Nat) (w : World) (h1 : n ≤ 2147483647) (h2 : n' ≤ 2147483647)
    (h : ta < 0 ∨ 65535 < ta ∨ tb < 0 ∨ 65535 < tb ∨ 4096 < n ∨ 4096 < n') :
    Calls Try.prog 4 #[.agg #[.int .i64 ta, .slice A n c], .agg #[.int .i64 tb, .slice A' n' c']] w fun e w' => e = .returned (.bool true) ∧ Below w.heap.size w w' := by
  have HS := two_start0 ta A n c tb A' n' c' w
  by_cases e1 : ta < 0
  case' neg => by_cases e2 : 65535 < ta
  case' neg => by_cases e3 : tb < 0
  case' neg => by_cases e4 : 65535 < tb
  case' neg => by_cases e5 : 4096 < n
  case' neg => have e6 : 4096 < n' := by omega
  all_goals
    clear h
    go_enter Try.func4, Try.ntmps4
    go_wp2_with (first
      | (go_at_call 6
         have q := hS1
         (with_reducible refine (fits_yes tb A' n' c' _ h2).mono ?_)
         rintro e w2 ⟨rfl, k2⟩
         have hS2 : Hid (TwoSt w.heap.size ta A n c tb A' n' c' w w2) := two_keep hS1.out k2
         have k2' := hS2.out
         obtain ⟨p0, p1, p2, p3, _, _⟩ := k2')
      | (go_at_call 6
         (with_reducible refine (fits_yes ta A n c _ h1).mono ?_)
         rintro e w1 ⟨rfl, k1⟩
         have hS1 : Hid (TwoSt w.heap.size ta A n c tb A' n' c' w w1) := two_keep HS k1
         have k1' := hS1.out
         obtain ⟨q0, q1, q2, q3, _, _⟩ := k1'))
    go_ret
    exact ⟨rfl, two_below hS2.out⟩

end Go.Proofs.Ytdinlhibglkgpaa.Same
