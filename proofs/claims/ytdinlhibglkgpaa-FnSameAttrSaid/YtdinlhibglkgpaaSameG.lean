/-
  The law FnSameAttr inside its bounds, at two attributes of two types: it returns true.
  Conditions: types from 0 to 65535, values of at most 4096 bytes that are read in memory (Row).
-/
import Derived.Test.YtdinlhibglkgpaaSameF
namespace Go.Proofs.Ytdinlhibglkgpaa.Same
open Go.RowKit
set_option linter.unusedVariables false
set_option linter.unusedSimpArgs false

set_option maxHeartbeats 2000000 in
/-- Two attributes of two types. -/
theorem law_types (ta tb : Int) (A A' : Option Addr) (c c' : Nat) (xs ys : List Int) (w : World) (ha0 : 0 ≤ ta) (ha1 : ta ≤ 65535) (hb0 : 0 ≤ tb) (hb1 : tb ≤ 65535)
    (hn : xs.length ≤ 4096) (hn' : ys.length ≤ 4096) (hr : Row w A c xs) (hr' : Row w A' c' ys) (h : (ta == tb) = false) :
    Calls Try.prog 4 #[.agg #[.int .i64 ta, .slice A xs.length c], .agg #[.int .i64 tb, .slice A' ys.length c']] w fun e w' => e = .returned (.bool true) ∧ Below w.heap.size w w' := by
  have HS := two_start0 ta A xs.length c tb A' ys.length c' w
  have HR1 : Hid (Row w A c xs) := hr
  have HR2 : Hid (Row w A' c' ys) := hr'
  have h1 : xs.length ≤ 2147483647 := by omega
  have h2 : ys.length ≤ 2147483647 := by omega
  have hm : xs.length ≤ 65535 := by omega
  have hm' : ys.length ≤ 65535 := by omega
  clear hr hr'
  go_enter Try.func4, Try.ntmps4
  go_wp2_with (first
    | (go_at_call 6
       have q := hS1
       (with_reducible refine (fits_yes tb A' ys.length c' _ h2).mono ?_)
       rintro e w2 ⟨rfl, k2⟩
       have hS2 : Hid (TwoSt w.heap.size ta A xs.length c tb A' ys.length c' w w2) := two_keep hS1.out k2
       have k2' := hS2.out
       obtain ⟨p0, p1, p2, p3, _, _⟩ := k2')
    | (go_at_call 6
       (with_reducible refine (fits_yes ta A xs.length c _ h1).mono ?_)
       rintro e w1 ⟨rfl, k1⟩
       have hS1 : Hid (TwoSt w.heap.size ta A xs.length c tb A' ys.length c' w w1) := two_keep HS k1
       have k1' := hS1.out
       obtain ⟨q0, q1, q2, q3, _, _⟩ := k1'))
  have hS3 : Hid (TwoSt w.heap.size ta A xs.length c tb A' ys.length c' w w2.drew) := two_drew hS2.out
  refine wp_region_noPanic ?_
  refine wp_region_held_drew (S := (fun w' => w'.cell? ⟨w.heap.size, 0, none⟩ = some (.int .i64 ta) ∧ w'.cell? ⟨w.heap.size, 1, none⟩ = some (.slice A xs.length c) ∧
      w'.cell? ⟨w.heap.size + 1, 0, none⟩ = some (.int .i64 tb) ∧ w'.cell? ⟨w.heap.size + 1, 1, none⟩ = some (.slice A' ys.length c') ∧
      Below w.heap.size w w' ∧ w.heap.size + 2 ≤ w'.heap.size)) (by kernel_rfl) hS3.out (fun hHeld => ?_)
  -- operation 0 yields its value
  refine' wpAnyH_take (i := 0) (v := _) rfl (by kernel_rfl) (by kernel_rfl) (by kernel_rfl) (fun _ _ _ h => h) (Or.inl ⟨by rfl, ?_⟩) hHeld ?_
  rotate_left
  · intro W hW
    go_simp
    try with_reducible rfl
  try simp only [Act.put, List.setIfInBounds_toArray, List.set_cons_zero, List.set_cons_succ, List.getElem_toArray, List.getElem_cons_zero, List.getElem_cons_succ]
  -- operation 1 yields its value
  refine' wpAnyH_take (i := 1) (v := _) rfl (by kernel_rfl) (by kernel_rfl) (by kernel_rfl) (fun _ _ _ h => h) (Or.inl ⟨by rfl, ?_⟩) hHeld ?_
  rotate_left
  · intro W hW
    go_simp
    try with_reducible rfl
  try simp only [Act.put, List.setIfInBounds_toArray, List.set_cons_zero, List.set_cons_succ, List.getElem_toArray, List.getElem_cons_zero, List.getElem_cons_succ]
  -- operation 3 yields its value
  refine' wpAnyH_take (i := 3) (v := _) rfl (by kernel_rfl) (by kernel_rfl) (by kernel_rfl) (fun _ _ _ h => h) (Or.inl ⟨by rfl, ?_⟩) hHeld ?_
  rotate_left
  · intro W hW
    go_simp
    try with_reducible rfl
  try simp only [Act.put, List.setIfInBounds_toArray, List.set_cons_zero, List.set_cons_succ, List.getElem_toArray, List.getElem_cons_zero, List.getElem_cons_succ]
  -- operation 4 yields its value
  refine' wpAnyH_take (i := 4) (v := _) rfl (by kernel_rfl) (by kernel_rfl) (by kernel_rfl) (fun _ _ _ h => h) (Or.inl ⟨by rfl, ?_⟩) hHeld ?_
  rotate_left
  · intro W hW
    go_simp
    try with_reducible rfl
  try simp only [Act.put, List.setIfInBounds_toArray, List.set_cons_zero, List.set_cons_succ, List.getElem_toArray, List.getElem_cons_zero, List.getElem_cons_succ]
  -- operation 5 yields its value
  refine' wpAnyH_take (i := 5) (v := _) rfl (by kernel_rfl) (by kernel_rfl) (by kernel_rfl) (fun _ _ _ h => h) (Or.inl ⟨by rfl, ?_⟩) hHeld ?_
  rotate_left
  · intro W hW
    go_simp
    try with_reducible rfl
  try simp only [Act.put, List.setIfInBounds_toArray, List.set_cons_zero, List.set_cons_succ, List.getElem_toArray, List.getElem_cons_zero, List.getElem_cons_succ]
  -- operation 6 yields its value
  refine' wpAnyH_take (i := 6) (v := _) rfl (by kernel_rfl) (by kernel_rfl) (by kernel_rfl) (fun _ _ _ h => h) (Or.inl ⟨by rfl, ?_⟩) hHeld ?_
  rotate_left
  · intro W hW
    go_simp
    try with_reducible rfl
  try simp only [Act.put, List.setIfInBounds_toArray, List.set_cons_zero, List.set_cons_succ, List.getElem_toArray, List.getElem_cons_zero, List.getElem_cons_succ]
  -- operation 7 yields its value
  refine' wpAnyH_take (i := 7) (v := _) rfl (by kernel_rfl) (by kernel_rfl) (by kernel_rfl) (fun _ _ _ h => h) (Or.inl ⟨by rfl, ?_⟩) hHeld ?_
  rotate_left
  · intro W hW
    go_simp
    try with_reducible rfl
  try simp only [Act.put, List.setIfInBounds_toArray, List.set_cons_zero, List.set_cons_succ, List.getElem_toArray, List.getElem_cons_zero, List.getElem_cons_succ]
  -- operation 2 is a call
  refine wpAnyH_ready (rs := [2]) (by kernel_rfl) (by simp) ?_
  refine AllReadyH.cons rfl (fun K hK => ?_) AllReadyH.nil
  go_simp
  have g1 := HR1.out.below (two_below hS3.out)
  have g2 := HR2.out.below (two_below hS3.out)
  refine (sameAttr_types ta tb A A' c c' xs ys _ ha0 ha1 hb0 hb1 hm hm' g1 g2 h).mono ?_
  clear g1 g2
  rintro e w4 ⟨rfl, k4⟩
  have hS4 : Hid (TwoSt w.heap.size ta A xs.length c tb A' ys.length c' w w4) := two_keep hS3.out k4
  refine hK.out _ _ hS4.out (fun hHeld' => ?_)
  clear hK K hHeld
  have hHeld := hHeld'
  clear hHeld'
  try simp only [Act.put, List.setIfInBounds_toArray, List.set_cons_zero, List.set_cons_succ, List.getElem_toArray, List.getElem_cons_zero, List.getElem_cons_succ]
  -- operation 8 yields its value
  refine' wpAnyH_take (i := 8) (v := _) rfl (by kernel_rfl) (by kernel_rfl) (by kernel_rfl) (fun _ _ _ h => h) (Or.inl ⟨by rfl, ?_⟩) hHeld ?_
  rotate_left
  · intro W hW
    go_simp
    try with_reducible rfl
  try simp only [Act.put, List.setIfInBounds_toArray, List.set_cons_zero, List.set_cons_succ, List.getElem_toArray, List.getElem_cons_zero, List.getElem_cons_succ]
  -- operation 9 is guarded, and does not run
  refine' wpAnyH_take (i := 9) (v := _) rfl (by kernel_rfl) (by kernel_rfl) (by kernel_rfl) (fun _ _ _ h => h) (Or.inr ⟨by rfl, rfl⟩) hHeld ?_
  try simp only [Act.put, List.setIfInBounds_toArray, List.set_cons_zero, List.set_cons_succ, List.getElem_toArray, List.getElem_cons_zero, List.getElem_cons_succ]
  -- operation 10 is guarded, and does not run
  refine' wpAnyH_take (i := 10) (v := _) rfl (by kernel_rfl) (by kernel_rfl) (by kernel_rfl) (fun _ _ _ h => h) (Or.inr ⟨by rfl, rfl⟩) hHeld ?_
  try simp only [Act.put, List.setIfInBounds_toArray, List.set_cons_zero, List.set_cons_succ, List.getElem_toArray, List.getElem_cons_zero, List.getElem_cons_succ]
  -- operation 11 is guarded, and does not run
  refine' wpAnyH_take (i := 11) (v := _) rfl (by kernel_rfl) (by kernel_rfl) (by kernel_rfl) (fun _ _ _ h => h) (Or.inr ⟨by rfl, rfl⟩) hHeld ?_
  try simp only [Act.put, List.setIfInBounds_toArray, List.set_cons_zero, List.set_cons_succ, List.getElem_toArray, List.getElem_cons_zero, List.getElem_cons_succ]
  -- operation 12 is guarded, and does not run
  refine' wpAnyH_take (i := 12) (v := _) rfl (by kernel_rfl) (by kernel_rfl) (by kernel_rfl) (fun _ _ _ h => h) (Or.inr ⟨by rfl, rfl⟩) hHeld ?_
  try simp only [Act.put, List.setIfInBounds_toArray, List.set_cons_zero, List.set_cons_succ, List.getElem_toArray, List.getElem_cons_zero, List.getElem_cons_succ]
  -- operation 13 is guarded, and does not run
  refine' wpAnyH_take (i := 13) (v := _) rfl (by kernel_rfl) (by kernel_rfl) (by kernel_rfl) (fun _ _ _ h => h) (Or.inr ⟨by rfl, rfl⟩) hHeld ?_
  try simp only [Act.put, List.setIfInBounds_toArray, List.set_cons_zero, List.set_cons_succ, List.getElem_toArray, List.getElem_cons_zero, List.getElem_cons_succ]
  -- operation 14 yields its value
  refine' wpAnyH_take (i := 14) (v := _) rfl (by kernel_rfl) (by kernel_rfl) (by kernel_rfl) (fun _ _ _ h => h) (Or.inl ⟨by rfl, ?_⟩) hHeld ?_
  rotate_left
  · intro W hW
    go_simp
    try with_reducible rfl
  try simp only [Act.put, List.setIfInBounds_toArray, List.set_cons_zero, List.set_cons_succ, List.getElem_toArray, List.getElem_cons_zero, List.getElem_cons_succ]
  -- operation 15 yields its value
  refine' wpAnyH_take (i := 15) (v := _) rfl (by kernel_rfl) (by kernel_rfl) (by kernel_rfl) (fun _ _ _ h => h) (Or.inl ⟨by rfl, ?_⟩) hHeld ?_
  rotate_left
  · intro W hW
    go_simp
    try with_reducible rfl
  try simp only [Act.put, List.setIfInBounds_toArray, List.set_cons_zero, List.set_cons_succ, List.getElem_toArray, List.getElem_cons_zero, List.getElem_cons_succ]
  -- operation 16 yields its value
  refine' wpAnyH_take (i := 16) (v := _) rfl (by kernel_rfl) (by kernel_rfl) (by kernel_rfl) (fun _ _ _ h => h) (Or.inl ⟨by rfl, ?_⟩) hHeld ?_
  rotate_left
  · intro W hW
    go_simp
    try with_reducible rfl
  try simp only [Act.put, List.setIfInBounds_toArray, List.set_cons_zero, List.set_cons_succ, List.getElem_toArray, List.getElem_cons_zero, List.getElem_cons_succ]
  -- operation 17 yields its value
  refine' wpAnyH_take (i := 17) (v := _) rfl (by kernel_rfl) (by kernel_rfl) (by kernel_rfl) (fun _ _ _ h => h) (Or.inl ⟨by rfl, ?_⟩) hHeld ?_
  rotate_left
  · intro W hW
    go_simp
    try with_reducible rfl
  try simp only [Act.put, List.setIfInBounds_toArray, List.set_cons_zero, List.set_cons_succ, List.getElem_toArray, List.getElem_cons_zero, List.getElem_cons_succ]
  -- operation 18 yields its value
  refine' wpAnyH_take (i := 18) (v := _) rfl (by kernel_rfl) (by kernel_rfl) (by kernel_rfl) (fun _ _ _ h => h) (Or.inl ⟨by rfl, ?_⟩) hHeld ?_
  rotate_left
  · intro W hW
    go_simp
    try with_reducible rfl
  try simp only [Act.put, List.setIfInBounds_toArray, List.set_cons_zero, List.set_cons_succ, List.getElem_toArray, List.getElem_cons_zero, List.getElem_cons_succ]
  -- operation 19 is a call
  refine wpAnyH_ready (rs := [19]) (by kernel_rfl) (by simp) ?_
  refine AllReadyH.cons rfl (fun K hK => ?_) AllReadyH.nil
  go_simp
  have g1 := HR1.out.below (two_below hS4.out)
  refine (sameAttr_self ta A c xs _ ha0 ha1 hm g1).mono ?_
  clear g1
  rintro e w5 ⟨rfl, k5⟩
  have hS5 : Hid (TwoSt w.heap.size ta A xs.length c tb A' ys.length c' w w5) := two_keep hS4.out k5
  refine hK.out _ _ hS5.out (fun hHeld' => ?_)
  clear hK K hHeld
  have hHeld := hHeld'
  clear hHeld'
  try simp only [Act.put, List.setIfInBounds_toArray, List.set_cons_zero, List.set_cons_succ, List.getElem_toArray, List.getElem_cons_zero, List.getElem_cons_succ]
  -- operation 20 yields its value
  refine' wpAnyH_take (i := 20) (v := _) rfl (by kernel_rfl) (by kernel_rfl) (by kernel_rfl) (fun _ _ _ h => h) (Or.inl ⟨by rfl, ?_⟩) hHeld ?_
  rotate_left
  · intro W hW
    go_simp
    try with_reducible rfl
  try simp only [Act.put, List.setIfInBounds_toArray, List.set_cons_zero, List.set_cons_succ, List.getElem_toArray, List.getElem_cons_zero, List.getElem_cons_succ]
  -- operation 21 yields its value
  refine' wpAnyH_take (i := 21) (v := _) rfl (by kernel_rfl) (by kernel_rfl) (by kernel_rfl) (fun _ _ _ h => h) (Or.inl ⟨by rfl, ?_⟩) hHeld ?_
  rotate_left
  · intro W hW
    go_simp
    try with_reducible rfl
  try simp only [Act.put, List.setIfInBounds_toArray, List.set_cons_zero, List.set_cons_succ, List.getElem_toArray, List.getElem_cons_zero, List.getElem_cons_succ]
  refine wpAnyH_done (by kernel_rfl) ?_ _
  refine NoPanic.normal ?_
  go_wp2
  go_ret
  exact ⟨rfl, two_below hS5.out⟩

end Go.Proofs.Ytdinlhibglkgpaa.Same
