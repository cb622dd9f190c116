/-
  RawAttribute.Equal, the package's comparison of two attributes: it answers true just if types, lengths and values are equal.
  Conditions: the lengths are those of the values, which are read in memory (Row), at most 65535 bytes each.
-/
import Derived.Test.YtdinlhibglkgpaaSameA
namespace Go.Proofs.Ytdinlhibglkgpaa.Same
open Go.RowKit
set_option linter.unusedVariables false
set_option linter.unusedSimpArgs false

/-! ### RawAttribute.Equal: function 12 -/
theorem equal_types (ta tb la lb : Int) (A A' : Option Addr) (n c n' c' : Nat) (w : World) (h : ta ≠ tb) :
    Calls Try.prog 12 #[.agg #[.int .u16 ta, .int .u16 la, .slice A n c], .agg #[.int .u16 tb, .int .u16 lb, .slice A' n' c']] w fun e w' => e = .returned (.bool false) ∧ Below w.heap.size w w' := by
  have d1 : (ta == tb) = false := by simpa using h
  have d2 : (ta != tb) = true := by simpa using h
  clear h
  go_enter Try.func12, Try.ntmps12
  go_wp2
  go_ret
  exact ⟨rfl, ((Below.refl _ _).alloc (Nat.le_refl _) _).alloc (by simp) _⟩

theorem equal_lengths (t la lb : Int) (A A' : Option Addr) (n c n' c' : Nat) (w : World) (h : la ≠ lb) :
    Calls Try.prog 12 #[.agg #[.int .u16 t, .int .u16 la, .slice A n c], .agg #[.int .u16 t, .int .u16 lb, .slice A' n' c']] w fun e w' => e = .returned (.bool false) ∧ Below w.heap.size w w' := by
  have d1 : (la == lb) = false := by simpa using h
  have d2 : (la != lb) = true := by simpa using h
  clear h
  go_enter Try.func12, Try.ntmps12
  go_wp2
  go_ret
  exact ⟨rfl, ((Below.refl _ _).alloc (Nat.le_refl _) _).alloc (by simp) _⟩

theorem ret_bool {a b : Bool} (h : a = b) : Ending.returned (.bool a) = .returned (.bool b) := by rw [h]

theorem take_snoc (xs : List Int) (k : Nat) (h : k < xs.length) : xs.take (k + 1) = xs.take k ++ [xs.getD k 0] := by
  rw [List.take_succ_eq_append_getElem h]
  simp [List.getD, List.getElem?_eq_getElem h]

theorem ne_at {xs ys : List Int} {k : Nat} (h : xs.getD k 0 ≠ ys.getD k 0) : xs ≠ ys := fun e => h (by rw [e])

set_option maxHeartbeats 400000 in
theorem equal_values (t l : Int) (A A' : Option Addr) (c c' : Nat) (xs ys : List Int) (r : Bool) (w : World) (hn : xs.length = ys.length) (hm : ys.length ≤ 65535)
    (hr : Row w A c xs) (hr' : Row w A' c' ys) (h : decide (xs = ys) = r) :
    Calls Try.prog 12 #[.agg #[.int .u16 t, .int .u16 l, .slice A xs.length c], .agg #[.int .u16 t, .int .u16 l, .slice A' ys.length c']] w fun e w' => e = .returned (.bool r) ∧ Below w.heap.size w w' := by
  rw [hn]
  obtain ⟨n, hN⟩ : ∃ n, n = ys.length := ⟨_, rfl⟩
  have HX : Hid (n = xs.length) := by show n = xs.length; omega
  have HY : Hid (n = ys.length) := hN
  have HR : Hid (decide (xs = ys) = r) := h
  rw [← hN] at hm ⊢
  have G1 : Hid (Row w A c xs) := hr
  have G2 : Hid (Row w A' c' ys) := hr'
  clear h hN hn hr hr'
  go_enter Try.func12, Try.ntmps12
  go_wp2
  go_loop [27] (fun i => ∃ k : Nat, k ≤ n ∧ i = .int .i64 k ∧ Hid (xs.take k = ys.take k)) (fun i => n - (intOf i).toNat)
  case atStart => exact ⟨0, Nat.zero_le _, rfl, (by show xs.take 0 = ys.take 0; simp)⟩
  case round =>
    obtain ⟨k, hk, rfl, hpre⟩ := hrel
    by_cases hlt : k < n
    · have hkx : k < xs.length := by have := HX.out; omega
      have hky : k < ys.length := by have := HY.out; omega
      obtain ⟨b, off, rfl, hcx⟩ := G1.out.2 k _ (getElem?_of_lt xs k hkx)
      obtain ⟨b', off', rfl, hcy⟩ := G2.out.2 k _ (getElem?_of_lt ys k hky)
      have l1 := World.block_lt_of_cell? w _ hcx
      have l2 := World.block_lt_of_cell? w _ hcy
      have l3 : b < w.heap.size + 1 := Nat.lt_succ_of_lt l1
      have l4 : b' < w.heap.size + 1 := Nat.lt_succ_of_lt l2
      have sx := take_snoc xs k hkx
      have sy := take_snoc ys k hky
      have hne := @ne_at xs ys k
      have HS : Hid (xs.getD k 0 = ys.getD k 0 → xs.take (k + 1) = ys.take (k + 1)) := by
        intro e
        rw [sx, sy, e, hpre.out]
      have HN : Hid (xs.getD k 0 ≠ ys.getD k 0 → xs ≠ ys) := hne
      clear sx sy hne hkx hky
      generalize xs.getD k 0 = x at hcx HS HN
      generalize ys.getD k 0 = y at hcy HS HN
      by_cases e : x = y
      · subst e
        go_wp2
        go_round
        case rel => exact ⟨k + 1, by omega, by go_num, HS.out rfl⟩
        case measure => simp [intOf]; omega
      · have d1 : (y == x) = false := by simpa using fun h => e h.symm
        have d2 : (y != x) = true := by simpa using fun h => e h.symm
        have hf := HR.out
        rw [decide_eq_false (HN.out e)] at hf
        have HF : Hid (false = r) := hf
        clear hf
        go_wp2
        go_ret
        exact ⟨ret_bool HF.out, ((Below.refl _ _).alloc (Nat.le_refl _) _).alloc (by simp) _⟩
    · have hkn : k = n := by omega
      have heq : xs = ys := by
        have h1 := hpre.out
        have h2 := HX.out
        have h3 := HY.out
        rw [List.take_of_length_le (by omega), List.take_of_length_le (by omega)] at h1
        exact h1
      have hf := HR.out
      rw [decide_eq_true heq] at hf
      have HF : Hid (true = r) := hf
      clear hf heq hkn
      go_wp2
      go_ret
      exact ⟨ret_bool HF.out, ((Below.refl _ _).alloc (Nat.le_refl _) _).alloc (by simp) _⟩

/-- Equal, whole. -/
theorem equal_any (ta tb : Int) (A A' : Option Addr) (c c' : Nat) (xs ys : List Int) (r : Bool) (w : World) (hm : xs.length ≤ 65535) (hm' : ys.length ≤ 65535)
    (hr : Row w A c xs) (hr' : Row w A' c' ys) (h : decide (ta = tb ∧ xs = ys) = r) :
    Calls Try.prog 12 #[.agg #[.int .u16 ta, .int .u16 xs.length, .slice A xs.length c], .agg #[.int .u16 tb, .int .u16 ys.length, .slice A' ys.length c']] w fun e w' => e = .returned (.bool r) ∧ Below w.heap.size w w' := by
  by_cases e1 : ta = tb
  · subst e1
    by_cases e2 : xs.length = ys.length
    · have := equal_values ta ys.length A A' c c' xs ys r w e2 hm' hr hr' (by rw [← h]; simp)
      rw [← e2] at this ⊢
      exact this
    · obtain rfl : r = false := by rw [← h]; simp; intro e; exact e2 (by rw [e])
      exact equal_lengths ta _ _ A A' _ c _ c' w (by omega)
  · obtain rfl : r = false := by rw [← h]; simp; intro e; exact absurd e e1
    exact equal_types ta tb _ _ A A' _ c _ c' w e1

end Go.Proofs.Ytdinlhibglkgpaa.Same
