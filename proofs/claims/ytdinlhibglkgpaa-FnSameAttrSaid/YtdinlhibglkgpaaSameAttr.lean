/-
  For every two attributes that the law is given, the law's Go function FnSameAttr returns true: within the law's bounds (types from 0 to 65535, values of at most 4096 bytes) the package tells two attributes the same just if types and values are equal, and each the same as itself; outside them the law says nothing.
  Conditions: none beyond the row's own (the arguments read as data; the arguments may share memory). The frame follows the kit's shell for slices; the walks are this session's.
-/
import Derived.Test.YtdinlhibglkgpaaRows
import Derived.Test.YtdinlhibglkgpaaSameG
import Derived.ProofKit
import Derived.OpenShut
import Derived.ChangeOld
import Derived.Carry
import Derived.Lib.SmallJoins
namespace Go.Proofs.Ytdinlhibglkgpaa.fnSameAttr
open Go.ChangeShapes Go.WideShapes Go.ChangeAt Go.RowKit
open Go.Joins (open_agg2)
open Go.Proofs.Ytdinlhibglkgpaa.Same
set_option linter.unusedVariables false

theorem own : ownKnob Try.prog.godebug = none := by kernel_rfl
theorem laidOut : laidOutB Try.prog = true := by kernel_rfl
theorem cells27 : Try.prog.cellsOf 27 = 2 := by kernel_rfl

/-- The law at two attributes that are read in memory. -/
theorem law_any (ta tb : Int) (A A' : Option Addr) (c c' : Nat) (xs ys : List Int) (w : World) (hx : ∀ x ∈ xs, 0 ≤ x ∧ x ≤ 255) (hy : ∀ y ∈ ys, 0 ≤ y ∧ y ≤ 255)
    (hr : Row w A c xs) (hr' : Row w A' c' ys) :
    Calls Try.prog 4 #[.agg #[.int .i64 ta, .slice A xs.length c], .agg #[.int .i64 tb, .slice A' ys.length c']] w fun e w' => e = .returned (.bool true) ∧ Below w.heap.size w w' := by
  by_cases e1 : 2147483647 < xs.length
  · exact law_long1 ta tb A A' _ c _ c' w e1
  by_cases e2 : 2147483647 < ys.length
  · exact law_long2 ta tb A A' _ c _ c' w (by omega) e2
  by_cases e3 : ta < 0 ∨ 65535 < ta ∨ tb < 0 ∨ 65535 < tb ∨ 4096 < xs.length ∨ 4096 < ys.length
  · exact law_outside ta tb A A' _ c _ c' w (by omega) (by omega) e3
  by_cases e4 : ta = tb
  · subst e4
    exact law_same ta A A' c c' xs ys (decide (xs = ys)) w (by omega) (by omega) (by omega) (by omega) hx hy hr hr' rfl
  · exact law_types ta tb A A' c c' xs ys w (by omega) (by omega) (by omega) (by omega) (by omega) (by omega) hr hr' (by simpa using e4)

/-- What a slice of bytes that came in gives the walk. -/
theorem row_in {w : World} {a : Addr} {len cap : Nat} {zs : List Int} (hl : len ≤ cap) (hz : zs.length = cap) (hcell : ∀ i, i < zs.length → w.cell? (a.add i) = some (.int .u8 (zs.getD i 0)))
    (hwz : ∀ n ∈ zs, (Lit.int .u8 n).wf = true) :
    ∃ xs : List Int, xs.length = len ∧ (∀ x ∈ xs, 0 ≤ x ∧ x ≤ 255) ∧ Row w (some a) cap xs := by
  refine ⟨zs.take len, by rw [List.length_take]; omega, fun x hx => ?_, fun e => (by cases e), fun k x hk => ?_⟩
  · exact bounds_u8 (hwz x (List.mem_of_mem_take hx))
  · have hkl : k < len := by
      have := (List.getElem?_eq_some_iff.1 hk).1
      rw [List.length_take] at this
      omega
    obtain ⟨b, off, spot⟩ := a
    have h0 := hcell 0 (by omega)
    have hspot : spot = none := by simpa [Addr.add] using World.cell?_spot h0
    subst hspot
    refine ⟨b, off, rfl, ?_⟩
    have hc := hcell k (by omega)
    rw [Addr.add_lit] at hc
    rw [List.getElem?_take_of_lt hkl] at hk
    rw [hc]
    simp [List.getD, hk]

/-- One argument, opened: its type and its value, read in memory. -/
theorem attr_in {H : Type} {enc : TypeId × Value → H} {W : World} {base : Nat} {v : Value} {d : DataW H} {p : List MemPlace} (hv : Value.okWide Try.prog W .any base 27 v)
    (h : DataW.Trod enc Try.prog W 0 (fun _ => true) true 27 v d p) :
    ∃ (t : Int) (A : Option Addr) (c : Nat) (xs : List Int), v = .agg #[.int .i64 t, .slice A xs.length c] ∧ (∀ x ∈ xs, 0 ≤ x ∧ x ≤ 255) ∧ Row W A c xs := by
  obtain ⟨c0, c1, y0, y1, m, rfl, rfl, rfl, hy0, hy1⟩ := open_agg2 Try.underlying27 (by kernel_rfl) cells27 hv h
  obtain ⟨t, e0, _, _⟩ := DataW.trod_int Try.underlying3 hy0
  simp only [List.cons.injEq, and_true] at e0
  subst e0
  rcases open_ints Try.underlying25 Try.underlying5 (by kernel_rfl) hy1 with ⟨e1, _⟩ | ⟨a, l, c, zs, e1, _, hl, _, hz, _, hcell, hwz⟩
  · simp only [List.cons.injEq, and_true] at e1
    subst e1
    exact ⟨t, none, 0, [], rfl, fun x hx => (by cases hx), fun _ => ⟨rfl, rfl⟩, fun k x hk => by simp at hk⟩
  · simp only [List.cons.injEq, and_true] at e1
    subst e1
    obtain ⟨xs, rfl, hx, hr⟩ := row_in hl (by simpa using hz) hcell hwz
    exact ⟨t, some a, c, xs, rfl, hx, hr⟩

set_option maxRecDepth 100000 in
theorem lifted (os : Os) (started : os.Started) (H : Type) (enc : TypeId × Value → H) :
    ReturnsInHanded {} Try.checked os 4 .any (Rows.fnSameAttrSpec.pre6 enc Try.prog Try.f4 Rows.fnSameAttrRow.domain false) (Rows.fnSameAttrSpec.post enc Try.prog Try.f4 false true false false) := by
  refine returnsInHanded_of_change (C := Try.checked) own started (by kernel_rfl) Try.func4
    (ChangeSpec.witness6 (enc := enc) (C := Try.checked) false ⟨#[], #[.agg #[.int .i64 0, .slice none 0 0], .agg #[.int .i64 0, .slice none 0 0]], []⟩ 8 (by kernel_rfl) (by kernel_rfl) (by kernel_rfl) (by kernel_rfl)) ?_
  intro W base args ds gs before hval0 hW hcnd _
  have hval : ∀ (j : Nat) t v, Try.f4.params[j]? = some t → args[j]? = some v → Value.okWide Try.prog W .any base t v := hval0
  have hW' := hW
  obtain ⟨p, q, hA0, hV, rfl, hfz, hnd⟩ := hW
  have hA : DataW.TrodAll enc Try.prog W 0 (fun _ => true) true Try.f4.params.toList args.toList ds p := hA0
  rw [Try.params4] at hA hval
  obtain ⟨v0, vs0, d0, ds0, p0, q0, hargs, rfl, rfl, h0, r0⟩ := trodAll_cons hA
  obtain ⟨v1, vs1, d1, ds1, p1, q1, rfl, rfl, rfl, h1, r1⟩ := trodAll_cons r0
  obtain ⟨rfl, rfl, rfl⟩ := trodAll_nil r1
  obtain rfl : args = #[v0, v1] := by cases args; simp_all
  obtain ⟨rfl, rfl⟩ := trodVars_none hV
  have lt0 : ∀ x ∈ p0, x.block < W.heap.size := by obtain ⟨m, hm⟩ := h0; exact DataW.trod_lt m _ _ _ hm
  have lt1 : ∀ x ∈ p1, x.block < W.heap.size := by obtain ⟨m, hm⟩ := h1; exact DataW.trod_lt m _ _ _ hm
  obtain ⟨ta, A, c, xs, rfl, hx, hr⟩ := attr_in (hval 0 27 v0 rfl rfl) h0
  obtain ⟨tb, A', c', ys, rfl, hy, hr'⟩ := attr_in (hval 1 27 v1 rfl rfl) h1
  clear hA0 hval0
  refine (law_any ta tb A A' c c' xs ys W hx hy hr hr').mono fun e W' ⟨he, bel⟩ => ?_
  subst he
  exact ⟨_, rfl, _, _, _, [], _, [], hW', trodAll_mk1 (shut_bool Try.underlying4 _), (trodAll_cons_mk (Below.trod laidOut (by kernel_rfl) (of_decide_eq_true (by kernel_rfl)) h0 bel lt0) (trodAll_cons_mk (Below.trod laidOut (by kernel_rfl) (of_decide_eq_true (by kernel_rfl)) h1 bel lt1) trodAll_mk0)), rfl, bel.frame _, fun h => by cases h⟩

theorem over : Rows.fnSameAttrRow.holds Try.pinned (OpenSpec.ofChange Rows.fnSameAttrSpec) :=
  OpenClaim.holds_of_wide 4 Try.f4 rfl rfl rfl rfl rfl rfl rfl ⟨rfl, rfl, rfl, rfl, rfl⟩ rfl rfl rfl rfl rfl (by kernel_rfl) Try.func4 (by kernel_rfl)
    (of_decide_eq_true (by kernel_rfl)) (by unfold Func.isWrapper; first | (rw [if_pos (by decide +kernel)]; kernel_rfl) | (rw [if_neg (by decide +kernel)]; exact ⟨rfl, rfl⟩))
    (fun os started H enc _ => lifted os started H enc)

/-- The statement. -/
theorem proved : Rows.FnSameAttrSaid := over
#print axioms proved
end Go.Proofs.Ytdinlhibglkgpaa.fnSameAttr
