/-
  The law FnSameAttr inside its bounds: it returns true.
  Conditions: types from 0 to 65535, values of at most 4096 bytes that are read in memory (Row).
-/
import Derived.Test.YtdinlhibglkgpaaSameE
namespace Go.Proofs.Ytdinlhibglkgpaa.Same
open Go.RowKit
set_option linter.unusedVariables false
set_option linter.unusedSimpArgs false

set_option maxHeartbeats 2000000 in
/-- Two attributes of one type. -/
theorem law_same (ta : Int) (A A' : Option Addr) (c c' : Nat) (xs ys : List Int) (r : Bool) (w : World) (ha0 : 0 ≤ ta) (ha1 : ta ≤ 65535)
    (hn : xs.length ≤ 4096) (hn' : ys.length ≤ 4096) (hx : ∀ x ∈ xs, 0 ≤ x ∧ x ≤ 255) (hy : ∀ y ∈ ys, 0 ≤ y ∧ y ≤ 255) (hr : Row w A c xs) (hr' : Row w A' c' ys) (h : decide (xs = ys) = r) :
    Calls Try.prog 4 #[.agg #[.int .i64 ta, .slice A xs.length c], .agg #[.int .i64 ta, .slice A' ys.length c']] w fun e w' => e = .returned (.bool true) ∧ Below w.heap.size w w' := by
  have HS := two_start0 ta A xs.length c ta A' ys.length c' w
  have HR1 : Hid (Row w A c xs) := hr
  have HR2 : Hid (Row w A' c' ys) := hr'
  have HX : Hid (∀ x ∈ xs, 0 ≤ x ∧ x ≤ 255) := hx
  have HY : Hid (∀ y ∈ ys, 0 ≤ y ∧ y ≤ 255) := hy
  have HE : Hid (decide (xs = ys) = r) := h
  have h1 : xs.length ≤ 2147483647 := by omega
  have h2 : ys.length ≤ 2147483647 := by omega
  have hm : xs.length ≤ 65535 := by omega
  have hm' : ys.length ≤ 65535 := by omega
  have hrr : (r == r) = true := by simp
  clear hr hr' h hx hy
  go_enter Try.func4, Try.ntmps4
  go_wp2_with (first
    | (go_at_call 6
       have q := hS1
       (with_reducible refine (fits_yes ta A' ys.length c' _ h2).mono ?_)
       rintro e w2 ⟨rfl, k2⟩
       have hS2 : Hid (TwoSt w.heap.size ta A xs.length c ta A' ys.length c' w w2) := two_keep hS1.out k2
       have k2' := hS2.out
       obtain ⟨p0, p1, p2, p3, _, _⟩ := k2')
    | (go_at_call 6
       (with_reducible refine (fits_yes ta A xs.length c _ h1).mono ?_)
       rintro e w1 ⟨rfl, k1⟩
       have hS1 : Hid (TwoSt w.heap.size ta A xs.length c ta A' ys.length c' w w1) := two_keep HS k1
       have k1' := hS1.out
       obtain ⟨q0, q1, q2, q3, _, _⟩ := k1'))
  have hS3 : Hid (TwoSt w.heap.size ta A xs.length c ta A' ys.length c' w w2.drew) := two_drew hS2.out
  go_region_held3 (fun w' => w'.cell? ⟨w.heap.size, 0, none⟩ = some (.int .i64 ta) ∧ w'.cell? ⟨w.heap.size, 1, none⟩ = some (.slice A xs.length c) ∧
      w'.cell? ⟨w.heap.size + 1, 0, none⟩ = some (.int .i64 ta) ∧ w'.cell? ⟨w.heap.size + 1, 1, none⟩ = some (.slice A' ys.length c') ∧
      Below w.heap.size w w' ∧ w.heap.size + 2 ≤ w'.heap.size)
    (first
      | exact hS5.out
      | exact hS4.out
      | exact hS3.out)
    (first
      | (go_at_call 8
         have g1 := HR1.out.below (two_below hS4.out)
         have g2 := HR2.out.below (two_below hS4.out)
         (with_reducible refine (same_any A A' c c' xs ys r _ HX.out HY.out g1 g2 HE.out).mono ?_)
         clear g1 g2
         rintro e w3 ⟨rfl, rfl⟩)
      | (go_at_call 7
         have g1 := HR1.out.below (two_below hS4.out)
         (with_reducible refine (sameAttr_self ta A c xs _ ha0 ha1 hm g1).mono ?_)
         clear g1
         rintro e w5 ⟨rfl, k5⟩
         have hS5 : Hid (TwoSt w.heap.size ta A xs.length c ta A' ys.length c' w w5) := two_keep hS4.out k5)
      | (go_at_call 7
         have g1 := HR1.out.below (two_below hS3.out)
         have g2 := HR2.out.below (two_below hS3.out)
         (with_reducible refine (sameAttr_type ta A A' c c' xs ys r _ ha0 ha1 hm hm' g1 g2 HE.out).mono ?_)
         clear g1 g2
         rintro e w4 ⟨rfl, k4⟩
         have hS4 : Hid (TwoSt w.heap.size ta A xs.length c ta A' ys.length c' w w4) := two_keep hS3.out k4))
  go_wp2
  go_ret
  exact ⟨rfl, two_below hS5.out⟩

end Go.Proofs.Ytdinlhibglkgpaa.Same
