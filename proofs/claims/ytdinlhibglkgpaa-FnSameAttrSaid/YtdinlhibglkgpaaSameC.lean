/-
  impl.raw, which turns an attribute of plain data into the package's own, and impl.SameAttr, which compares two: it answers true just if types and values are equal.
  Conditions: types from 0 to 65535, values of at most 65535 bytes that are read in memory (Row).
-/
import Derived.Test.YtdinlhibglkgpaaSameB
import Derived.Deep.RegionHeld3
namespace Go.Proofs.Ytdinlhibglkgpaa.Same
open Go.RowKit
set_option linter.unusedVariables false
set_option linter.unusedSimpArgs false

/-- What stands in a cell. -/
def cellAt (w : World) (a : Addr) : Value := (w.cell? a).getD undef
theorem cellAt_of {w : World} {a : Addr} (h : (w.cell? a).isSome = true) : w.cell? a = some (cellAt w a) := by
  unfold cellAt
  obtain ⟨u, hu⟩ := Option.isSome_iff_exists.1 h
  rw [hu]; rfl

/-! ### raw: function 11 -/
/-- What raw ends in: the package's attribute of the type t, with a copy of xs. -/
def RawPost (t : Int) (xs : List Int) (w : World) (e : Ending) (w' : World) : Prop :=
  ∃ A c, e = .returned (.agg #[.int .u16 t, .int .u16 xs.length, .slice A xs.length c]) ∧ Row w' A c xs ∧ Below w.heap.size w w'

/-- What holds of the world throughout raw's one statement: g is the block of the argument's box, the next one that of the result. -/
def RawSt (g : Nat) (t : Int) (A : Option Addr) (n c : Nat) (w w' : World) : Prop :=
  w'.cell? ⟨g, 0, none⟩ = some (.int .i64 t) ∧ w'.cell? ⟨g, 1, none⟩ = some (.slice A n c) ∧
  w'.cell? ⟨g + 1, 0, none⟩ = some (cellAt w' ⟨g + 1, 0, none⟩) ∧ w'.cell? ⟨g + 1, 1, none⟩ = some (cellAt w' ⟨g + 1, 1, none⟩) ∧ w'.cell? ⟨g + 1, 2, none⟩ = some (cellAt w' ⟨g + 1, 2, none⟩) ∧
  w'.frozen? ⟨g + 1, 0, none⟩ = false ∧ w'.frozen? ⟨g + 1, 1, none⟩ = false ∧ w'.frozen? ⟨g + 1, 2, none⟩ = false ∧
  Below g w w' ∧ g + 2 ≤ w'.heap.size

theorem some_of {w : World} {a : Addr} {u : Value} (h : w.cell? a = some u) : (w.cell? a).isSome = true := by rw [h]; rfl

theorem some_set {w : World} {q : Addr} (p : Addr) (v : Value) (h : (w.cell? q).isSome = true) : ((w.setCell p v).cell? q).isSome = true := by
  by_cases e : p = q
  · subst e
    obtain ⟨u, hu⟩ := Option.isSome_iff_exists.1 h
    rw [World.cell?_setCell_same w p v hu]; rfl
  · rw [World.cell?_setCell_other w p q v e]; exact h

/-- The two blocks that raw makes. -/
def rawBoxes (w : World) (t : Int) (A : Option Addr) (n c : Nat) : World :=
  (w.alloc (Obj.cells #[Value.int IntKind.i64 t, Value.slice A n c] 27)).alloc (Obj.cells #[Value.int IntKind.u16 0, Value.int IntKind.u16 0, Value.slice none 0 0] 35)

theorem raw_start (t : Int) (A : Option Addr) (n c : Nat) (w : World) : RawSt w.heap.size t A n c w (rawBoxes w t A n c).drew := by
  unfold rawBoxes
  refine ⟨by go_simp, by go_simp, cellAt_of (by go_simp), cellAt_of (by go_simp), cellAt_of (by go_simp), by go_simp, by go_simp, by go_simp,
    (((Below.refl _ _).alloc (Nat.le_refl _) _).alloc (by simp) _).drew, by go_simp⟩

theorem raw_keep {g : Nat} {t : Int} {A : Option Addr} {n c : Nat} {w w' w1 : World} (h : RawSt g t A n c w w') (hb : Below w'.heap.size w' w1) : RawSt g t A n c w w1 := by
  obtain ⟨h0, h1, h2, h3, h4, f0, f1, f2, hB, hs⟩ := h
  have l0 : g < w'.heap.size := by omega
  have l1 : g + 1 < w'.heap.size := by omega
  have hs1 := hb.size
  exact ⟨(hb.cell l0).trans h0, (hb.cell l0).trans h1, cellAt_of (some_of ((hb.cell l1).trans h2)), cellAt_of (some_of ((hb.cell l1).trans h3)), cellAt_of (some_of ((hb.cell l1).trans h4)),
    (hb.frozen l1).trans f0, (hb.frozen l1).trans f1, (hb.frozen l1).trans f2, hB.trans (hb.mono (by omega)), by omega⟩

theorem raw_set {g : Nat} {t : Int} {A : Option Addr} {n c : Nat} {w w1 : World} (h : RawSt g t A n c w w1) (i : Nat) (v : Value) : RawSt g t A n c w (w1.setCell ⟨g + 1, i, none⟩ v) := by
  obtain ⟨h0, h1, h2, h3, h4, f0, f1, f2, hB, hs⟩ := h
  refine ⟨?_, ?_, cellAt_of (some_set _ _ (some_of h2)), cellAt_of (some_set _ _ (some_of h3)), cellAt_of (some_set _ _ (some_of h4)), ?_, ?_, ?_, hB.setCell (p := ⟨g + 1, i, none⟩) (by simp) v, by simpa using hs⟩
  · rw [World.cell?_setCell_other _ _ _ _ (by simp)]; exact h0
  · rw [World.cell?_setCell_other _ _ _ _ (by simp)]; exact h1
  · rw [World.frozen?_setCell]; exact f0
  · rw [World.frozen?_setCell]; exact f1
  · rw [World.frozen?_setCell]; exact f2

theorem Row.setCell {w : World} {A : Option Addr} {c : Nat} {xs : List Int} (h : Row w A c xs) (p : Addr) (v : Value) (hp : ∀ b off, A = some ⟨b, off, none⟩ → b ≠ p.block) : Row (w.setCell p v) A c xs :=
  ⟨h.1, fun k x hk => by
    obtain ⟨b, off, e, hc⟩ := h.2 k x hk
    refine ⟨b, off, e, (World.cell?_setCell_other w p _ v (fun e' => hp b off e (by rw [e']))).trans hc⟩⟩

/-- The result's three cells behind the store. -/
theorem raw_cells {g : Nat} {t : Int} {A : Option Addr} {n c : Nat} {w w1 : World} (h : RawSt g t A n c w w1) (v0 v1 v2 : Value) :
    (((w1.setCell ⟨g + 1, 0, none⟩ v0).setCell ⟨g + 1, 1, none⟩ v1).setCell ⟨g + 1, 2, none⟩ v2).cell? ⟨g + 1, 0, none⟩ = some v0 ∧
    (((w1.setCell ⟨g + 1, 0, none⟩ v0).setCell ⟨g + 1, 1, none⟩ v1).setCell ⟨g + 1, 2, none⟩ v2).cell? ⟨g + 1, 1, none⟩ = some v1 ∧
    (((w1.setCell ⟨g + 1, 0, none⟩ v0).setCell ⟨g + 1, 1, none⟩ v1).setCell ⟨g + 1, 2, none⟩ v2).cell? ⟨g + 1, 2, none⟩ = some v2 := by
  obtain ⟨_, _, h2, h3, h4, _⟩ := h
  refine ⟨?_, ?_, ?_⟩
  · rw [World.cell?_setCell_other _ _ _ _ (by simp), World.cell?_setCell_other _ _ _ _ (by simp)]
    exact World.cell?_setCell_same' _ _ _ (some_of h2)
  · rw [World.cell?_setCell_other _ _ _ _ (by simp)]
    exact World.cell?_setCell_same' _ _ _ (some_set _ _ (some_of h3))
  · exact World.cell?_setCell_same' _ _ _ (some_set _ _ (some_set _ _ (some_of h4)))

set_option maxHeartbeats 1000000 in
theorem raw_any (t : Int) (A : Option Addr) (c : Nat) (xs : List Int) (w : World) (ht0 : 0 ≤ t) (ht1 : t ≤ 65535) (hn : xs.length ≤ 65535) (hr : Row w A c xs) :
    Calls Try.prog 11 #[.agg #[.int .i64 t, .slice A xs.length c]] w (RawPost t xs w) := by
  have hg0 : w.heap.size < w.heap.size + 1 := Nat.lt_succ_self _
  have HS : Hid (RawSt w.heap.size t A xs.length c w (rawBoxes w t A xs.length c).drew) := raw_start t A xs.length c w
  have HR : Hid (Row w A c xs) := hr
  clear hr
  go_enter Try.func11, Try.ntmps11
  go_wp2_with fail
  go_region_held3 (fun w' => w'.cell? ⟨w.heap.size, 0, none⟩ = some (.int .i64 t) ∧ w'.cell? ⟨w.heap.size, 1, none⟩ = some (.slice A xs.length c) ∧
      w'.cell? ⟨w.heap.size + 1, 0, none⟩ = some (cellAt w' ⟨w.heap.size + 1, 0, none⟩) ∧ w'.cell? ⟨w.heap.size + 1, 1, none⟩ = some (cellAt w' ⟨w.heap.size + 1, 1, none⟩) ∧ w'.cell? ⟨w.heap.size + 1, 2, none⟩ = some (cellAt w' ⟨w.heap.size + 1, 2, none⟩) ∧
      w'.frozen? ⟨w.heap.size + 1, 0, none⟩ = false ∧ w'.frozen? ⟨w.heap.size + 1, 1, none⟩ = false ∧ w'.frozen? ⟨w.heap.size + 1, 2, none⟩ = false ∧
      Below w.heap.size w w' ∧ w.heap.size + 2 ≤ w'.heap.size)
    (first
      | exact HS.out
      | exact hS1.out
      | exact raw_set (raw_set (raw_set hS1.out 0 _) 1 _) 2 _)
    (first
      | (go_at_call 13
         refine (copied_any A c xs _ (HR.out.below (by go_split_ands; assumption)) hn).mono ?_
         rintro e w1 ⟨A', c', rfl, hrow, hnew, hb⟩
         have hz := hb.size
         have hS1 : Hid (RawSt w.heap.size t A xs.length c w w1) := raw_keep (by assumption) hb))
  clear ‹_ ∧ _ ∧ _ ∧ _ ∧ _ ∧ _ ∧ _ ∧ _ ∧ _ ∧ _›
  have hS2 := raw_set (raw_set (raw_set hS1.out 0 (Value.int IntKind.u16 (IntKind.u16.wrap t))) 1 (Value.int IntKind.u16 (IntKind.u16.wrap ↑xs.length))) 2 (Value.slice A' xs.length c')
  have hnew' : ∀ b off, A' = some ⟨b, off, none⟩ → b ≠ w.heap.size + 1 := fun b off e => by have := hnew b off e; simp [World.drew] at this; omega
  have hrow2 := ((hrow.setCell ⟨w.heap.size + 1, 0, none⟩ (Value.int IntKind.u16 (IntKind.u16.wrap t)) hnew').setCell ⟨w.heap.size + 1, 1, none⟩ (Value.int IntKind.u16 (IntKind.u16.wrap ↑xs.length)) hnew').setCell ⟨w.heap.size + 1, 2, none⟩ (Value.slice A' xs.length c') hnew'
  have q := raw_cells hS1.out (Value.int IntKind.u16 (IntKind.u16.wrap t)) (Value.int IntKind.u16 (IntKind.u16.wrap ↑xs.length)) (Value.slice A' xs.length c')
  rw [IntWalk.u16_in t ⟨ht0, ht1⟩, IntWalk.u16_in (xs.length : Int) ⟨by omega, by omega⟩] at *
  clear hS1 hnew hb hz hnew' hrow HS
  generalize ((w1.setCell { block := w.heap.size + 1, off := 0 } (Value.int IntKind.u16 t)).setCell { block := w.heap.size + 1, off := 1 } (Value.int IntKind.u16 ↑xs.length)).setCell { block := w.heap.size + 1, off := 2 } (Value.slice A' xs.length c') = W at *
  obtain ⟨q0, q1, q2⟩ := q
  have hB : Hid (Below w.heap.size w W) := hS2.2.2.2.2.2.2.2.2.1
  clear hS2
  go_wp2
  exact bodyPost_ret (v := .agg #[.int .u16 t, .int .u16 xs.length, .slice A' xs.length c']) (by simp [results, Try.results11, go_sem, q0, q1, q2]) rfl ⟨A', c', rfl, hrow2, hB⟩

end Go.Proofs.Ytdinlhibglkgpaa.Same
