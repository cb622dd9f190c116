/-
  impl.SameAttr, which compares two attributes of plain data by the package: it answers true just if types and values are equal.
  Conditions: types from 0 to 65535, values of at most 65535 bytes that are read in memory (Row).
-/
import Derived.Test.YtdinlhibglkgpaaSameC
namespace Go.Proofs.Ytdinlhibglkgpaa.Same
open Go.RowKit
set_option linter.unusedVariables false
set_option linter.unusedSimpArgs false

/-- What holds of the world while two boxed attributes are compared: g and the next block are their boxes; nothing below g has changed. -/
def TwoSt (g : Nat) (ta : Int) (A : Option Addr) (n c : Nat) (tb : Int) (A' : Option Addr) (n' c' : Nat) (w w' : World) : Prop :=
  w'.cell? ⟨g, 0, none⟩ = some (.int .i64 ta) ∧ w'.cell? ⟨g, 1, none⟩ = some (.slice A n c) ∧
  w'.cell? ⟨g + 1, 0, none⟩ = some (.int .i64 tb) ∧ w'.cell? ⟨g + 1, 1, none⟩ = some (.slice A' n' c') ∧
  Below g w w' ∧ g + 2 ≤ w'.heap.size

abbrev twoBoxes (w : World) (ta : Int) (A : Option Addr) (n c : Nat) (tb : Int) (A' : Option Addr) (n' c' : Nat) : World :=
  (w.alloc (Obj.cells #[Value.int IntKind.i64 ta, Value.slice A n c] 27)).alloc (Obj.cells #[Value.int IntKind.i64 tb, Value.slice A' n' c'] 27)

theorem two_start0 (ta : Int) (A : Option Addr) (n c : Nat) (tb : Int) (A' : Option Addr) (n' c' : Nat) (w : World) :
    TwoSt w.heap.size ta A n c tb A' n' c' w (twoBoxes w ta A n c tb A' n' c') := by
  unfold twoBoxes
  refine ⟨by go_simp, by go_simp, by go_simp, by go_simp, ((Below.refl _ _).alloc (Nat.le_refl _) _).alloc (by simp) _, by go_simp⟩

theorem two_drew {g : Nat} {ta : Int} {A : Option Addr} {n c : Nat} {tb : Int} {A' : Option Addr} {n' c' : Nat} {w w' : World} (h : TwoSt g ta A n c tb A' n' c' w w') : TwoSt g ta A n c tb A' n' c' w w'.drew :=
  ⟨h.1, h.2.1, h.2.2.1, h.2.2.2.1, h.2.2.2.2.1.drew, h.2.2.2.2.2⟩

theorem two_keep {g : Nat} {ta : Int} {A : Option Addr} {n c : Nat} {tb : Int} {A' : Option Addr} {n' c' : Nat} {w w' w1 : World} (h : TwoSt g ta A n c tb A' n' c' w w') (hb : Below w'.heap.size w' w1) :
    TwoSt g ta A n c tb A' n' c' w w1 := by
  obtain ⟨h0, h1, h2, h3, hB, hs⟩ := h
  have l0 : g < w'.heap.size := by omega
  have l1 : g + 1 < w'.heap.size := by omega
  have hs1 := hb.size
  exact ⟨(hb.cell l0).trans h0, (hb.cell l0).trans h1, (hb.cell l1).trans h2, (hb.cell l1).trans h3, hB.trans (hb.mono (by omega)), by omega⟩

theorem two_below {g : Nat} {ta : Int} {A : Option Addr} {n c : Nat} {tb : Int} {A' : Option Addr} {n' c' : Nat} {w w' : World} (h : TwoSt g ta A n c tb A' n' c' w w') : Below g w w' := h.2.2.2.2.1

/-! ### SameAttr: function 7 -/
set_option maxHeartbeats 1000000 in
theorem sameAttr_any (ta tb : Int) (A A' : Option Addr) (c c' : Nat) (xs ys : List Int) (r : Bool) (w : World) (ha0 : 0 ≤ ta) (ha1 : ta ≤ 65535) (hb0 : 0 ≤ tb) (hb1 : tb ≤ 65535)
    (hn : xs.length ≤ 65535) (hn' : ys.length ≤ 65535) (hr : Row w A c xs) (hr' : Row w A' c' ys) (h : decide (ta = tb ∧ xs = ys) = r) :
    Calls Try.prog 7 #[.agg #[.int .i64 ta, .slice A xs.length c], .agg #[.int .i64 tb, .slice A' ys.length c']] w fun e w' => e = .returned (.bool r) ∧ Below w.heap.size w w' := by
  have HS : Hid (TwoSt w.heap.size ta A xs.length c tb A' ys.length c' w (twoBoxes w ta A xs.length c tb A' ys.length c').drew) := two_drew (two_start0 ta A xs.length c tb A' ys.length c' w)
  have HR1 : Hid (Row w A c xs) := hr
  have HR2 : Hid (Row w A' c' ys) := hr'
  have HE : Hid (decide (ta = tb ∧ xs = ys) = r) := h
  clear hr hr' h
  go_enter Try.func7, Try.ntmps7
  go_wp2_with fail
  go_region_held3 (fun w' => w'.cell? ⟨w.heap.size, 0, none⟩ = some (.int .i64 ta) ∧ w'.cell? ⟨w.heap.size, 1, none⟩ = some (.slice A xs.length c) ∧
      w'.cell? ⟨w.heap.size + 1, 0, none⟩ = some (.int .i64 tb) ∧ w'.cell? ⟨w.heap.size + 1, 1, none⟩ = some (.slice A' ys.length c') ∧
      Below w.heap.size w w' ∧ w.heap.size + 2 ≤ w'.heap.size)
    (first
      | exact HS3.out
      | exact HS2.out
      | exact HS1.out
      | exact HS.out)
    (first
      | (go_at_call 12
         have hrow1' := hrow1.below k2
         (with_reducible refine (equal_any ta tb A1 A2 c1 c2 xs ys r _ hn hn' hrow1' hrow2 HE.out).mono ?_)
         rintro e w3 ⟨rfl, k3⟩
         have HS3 : Hid (TwoSt w.heap.size ta A xs.length c tb A' ys.length c' w w3) := two_keep HS2.out k3)
      | (go_at_call 11
         have hrow0 := HR2.out.below (two_below HS1.out)
         (with_reducible refine (raw_any tb A' c' ys _ hb0 hb1 hn' hrow0).mono ?_)
         rintro e w2 ⟨A2, c2, rfl, hrow2, k2⟩
         have HS2 : Hid (TwoSt w.heap.size ta A xs.length c tb A' ys.length c' w w2) := two_keep HS1.out k2)
      | (go_at_call 11
         have hrow0 := HR1.out.below (two_below HS.out)
         (with_reducible refine (raw_any ta A c xs _ ha0 ha1 hn hrow0).mono ?_)
         rintro e w1 ⟨A1, c1, rfl, hrow1, k1⟩
         have HS1 : Hid (TwoSt w.heap.size ta A xs.length c tb A' ys.length c' w w1) := two_keep HS.out k1))
  go_wp2
  go_ret
  exact ⟨rfl, two_below HS3.out⟩

/-- Two attributes of one type. -/
theorem sameAttr_type (t : Int) (A A' : Option Addr) (c c' : Nat) (xs ys : List Int) (r : Bool) (w : World) (ht0 : 0 ≤ t) (ht1 : t ≤ 65535)
    (hn : xs.length ≤ 65535) (hn' : ys.length ≤ 65535) (hr : Row w A c xs) (hr' : Row w A' c' ys) (h : decide (xs = ys) = r) :
    Calls Try.prog 7 #[.agg #[.int .i64 t, .slice A xs.length c], .agg #[.int .i64 t, .slice A' ys.length c']] w fun e w' => e = .returned (.bool r) ∧ Below w.heap.size w w' :=
  sameAttr_any t t A A' c c' xs ys r w ht0 ht1 ht0 ht1 hn hn' hr hr' (by rw [← h]; simp)

/-- An attribute and itself. -/
theorem sameAttr_self (t : Int) (A : Option Addr) (c : Nat) (xs : List Int) (w : World) (ht0 : 0 ≤ t) (ht1 : t ≤ 65535) (hn : xs.length ≤ 65535) (hr : Row w A c xs) :
    Calls Try.prog 7 #[.agg #[.int .i64 t, .slice A xs.length c], .agg #[.int .i64 t, .slice A xs.length c]] w fun e w' => e = .returned (.bool true) ∧ Below w.heap.size w w' :=
  sameAttr_type t A A c c xs xs true w ht0 ht1 hn hn hr hr (by simp)

/-- Two attributes of two types. -/
theorem sameAttr_types (ta tb : Int) (A A' : Option Addr) (c c' : Nat) (xs ys : List Int) (w : World) (ha0 : 0 ≤ ta) (ha1 : ta ≤ 65535) (hb0 : 0 ≤ tb) (hb1 : tb ≤ 65535)
    (hn : xs.length ≤ 65535) (hn' : ys.length ≤ 65535) (hr : Row w A c xs) (hr' : Row w A' c' ys) (h : (ta == tb) = false) :
    Calls Try.prog 7 #[.agg #[.int .i64 ta, .slice A xs.length c], .agg #[.int .i64 tb, .slice A' ys.length c']] w fun e w' => e = .returned (.bool false) ∧ Below w.heap.size w w' :=
  sameAttr_any ta tb A A' c c' xs ys false w ha0 ha1 hb0 hb1 hn hn' hr hr' (decide_eq_false fun e => by rw [e.1] at h; simp at h)

end Go.Proofs.Ytdinlhibglkgpaa.Same
