/-
  What the law FnSameAttr calls, one contract a function: its bound on lengths, the comparison of two lists of bytes as strings, and the copy of a list of bytes.
  Conditions: each list of bytes is read in memory (Row), its numbers lie from 0 to 255 where they are compared as strings, and its length is at most 65535 where it is copied.
-/
import Derived.Test.YtdinlhibglkgpaaProg
import Derived.Tactics
import Derived.Tactics2
import Derived.WalkKit
import Derived.Below
import Derived.KernelRfl
import Derived.OwnWalk
import Derived.Laws.BytesArg
import Derived.Laws.AppendOwn
import Derived.Laws.AppendOwnNone
import Derived.Laws.OwnMore
import Derived.Lib.Bytes
namespace Go.Proofs.Ytdinlhibglkgpaa.Same
open Go.RowKit
set_option linter.unusedVariables false
set_option linter.unusedSimpArgs false

/-- The slice with the array A and the capacity c reads in w as the bytes xs. -/
def Row (w : World) (A : Option Addr) (c : Nat) (xs : List Int) : Prop :=
  (A = none → c = 0 ∧ xs = []) ∧ ∀ k x, xs[k]? = some x → ∃ b off, A = some ⟨b, off, none⟩ ∧ w.cell? ⟨b, off + k, none⟩ = some (.int .u8 x)

theorem Row.below {w w' : World} {A : Option Addr} {c : Nat} {xs : List Int} (h : Row w A c xs) (hb : Below w.heap.size w w') : Row w' A c xs :=
  ⟨h.1, fun k x hk => by
    obtain ⟨b, off, e, hc⟩ := h.2 k x hk
    exact ⟨b, off, e, (hb.cell (World.block_lt_of_cell? w _ hc)).trans hc⟩⟩

/-- A row below block B, kept over whatever leaves the blocks below B alone. -/
theorem Row.keep {w w' : World} {A : Option Addr} {c B : Nat} {xs : List Int} (h : Row w A c xs) (hlt : ∀ b off, A = some ⟨b, off, none⟩ → b < B) (hb : Below B w w') : Row w' A c xs :=
  ⟨h.1, fun k x hk => by
    obtain ⟨b, off, e, hc⟩ := h.2 k x hk
    exact ⟨b, off, e, (hb.cell (p := ⟨b, off + k, none⟩) (hlt b off e)).trans hc⟩⟩

theorem getElem?_of_lt (xs : List Int) (k : Nat) (h : k < xs.length) : xs[k]? = some (xs.getD k 0) := by
  simp [List.getD, List.getElem?_eq_getElem h]

/-! ### The comparison as strings -/
theorem byte_inj {x y : Int} (hx : 0 ≤ x ∧ x ≤ 255) (hy : 0 ≤ y ∧ y ≤ 255) (h : UInt8.ofNat x.toNat = UInt8.ofNat y.toNat) : x = y := by
  have h' := congrArg UInt8.toNat h
  simp only [UInt8.toNat_ofNat'] at h'
  have ex : x.toNat % 2 ^ 8 = x.toNat := Nat.mod_eq_of_lt (by omega)
  have ey : y.toNat % 2 ^ 8 = y.toNat := Nat.mod_eq_of_lt (by omega)
  rw [ex, ey] at h'
  omega

theorem bytes_inj : ∀ (xs ys : List Int), (∀ x ∈ xs, 0 ≤ x ∧ x ≤ 255) → (∀ y ∈ ys, 0 ≤ y ∧ y ≤ 255) → Lib.bytesOf xs = Lib.bytesOf ys → xs = ys
  | [], [], _, _, _ => rfl
  | [], _ :: _, _, _, h => by simp [Lib.bytesOf] at h
  | _ :: _, [], _, _, h => by simp [Lib.bytesOf] at h
  | x :: xs, y :: ys, hx, hy, h => by
    simp only [Lib.bytesOf, List.map_cons, List.cons.injEq] at h
    rw [byte_inj (hx x (by simp)) (hy y (by simp)) h.1, bytes_inj xs ys (fun a ha => hx a (by simp [ha])) (fun a ha => hy a (by simp [ha])) h.2]

/-- Two lists of bytes are equal as strings just if they are equal. -/
theorem str_eq (xs ys : List Int) (hx : ∀ x ∈ xs, 0 ≤ x ∧ x ≤ 255) (hy : ∀ y ∈ ys, 0 ≤ y ∧ y ≤ 255) :
    ((strOfNums xs).toList == (strOfNums ys).toList) = decide (xs = ys) := by
  rw [Lib.strOfNums_toList, Lib.strOfNums_toList, Bool.eq_iff_iff, beq_iff_eq, decide_eq_true_iff]
  exact ⟨bytes_inj xs ys hx hy, fun h => by rw [h]⟩

/-- The bytes of a row, as a string. -/
theorem row_str {w : World} {A : Option Addr} {c : Nat} {xs : List Int} (h : Row w A c xs) :
    (convert 25 9 (.slice A xs.length c)).run Try.prog w = .ok (.string (strOfNums xs)) w := by
  rcases A with _ | ad
  · obtain ⟨rfl, rfl⟩ := h.1 rfl
    exact run_convert_bytes_nil w 25 5 Try.underlying25 Try.underlying5 0 0 9 Try.underlying9
  · rcases xs with _ | ⟨x, xs⟩
    · rw [List.length_nil, run_convert_bytes_string w 25 9 5 _ _ c Try.underlying25 Try.underlying5 Try.underlying9,
        run_bytesToString w ad 0 c [] (run_loadCells_list w ad [] (fun j v hj => by simp at hj))]
      rfl
    · obtain ⟨b, off, e, _⟩ := h.2 0 x rfl
      injection e with e
      subst e
      refine run_convert_bytes_arg w 25 5 Try.underlying25 Try.underlying5 b off _ c (x :: xs) rfl (fun i hi => ?_) 9 Try.underlying9
      obtain ⟨b', off', e, hc⟩ := h.2 i _ (getElem?_of_lt _ i hi)
      simp only [Option.some.injEq, Addr.mk.injEq] at e
      obtain ⟨rfl, rfl, _⟩ := e
      exact hc

/-! ### same: function 8 -/
theorem same_any (A A' : Option Addr) (c c' : Nat) (xs ys : List Int) (r : Bool) (w : World) (hx : ∀ x ∈ xs, 0 ≤ x ∧ x ≤ 255) (hy : ∀ y ∈ ys, 0 ≤ y ∧ y ≤ 255)
    (hr : Row w A c xs) (hr' : Row w A' c' ys) (h : decide (xs = ys) = r) :
    Calls Try.prog 8 #[.slice A xs.length c, .slice A' ys.length c'] w fun e w' => e = .returned (.bool r) ∧ w' = w := by
  have k1 := row_str hr
  have k2 := row_str hr'
  have k3 := str_eq xs ys hx hy
  rw [h] at k3
  clear h hr hr' hx hy
  go_enter Try.func8, Try.ntmps8
  go_wp2
  go_ret
  exact ⟨rfl, rfl⟩

/-! ### zzFits3: function 6 -/
theorem fits_yes (t : Int) (A : Option Addr) (n c : Nat) (w : World) (h : n ≤ 2147483647) :
    Calls Try.prog 6 #[.agg #[.int .i64 t, .slice A n c]] w fun e w' => e = .returned (.bool true) ∧ Below w.heap.size w w' := by
  have d : decide (2147483647 < n) = false := by simp; omega
  go_enter Try.func6, Try.ntmps6
  go_wp2
  go_ret
  exact ⟨rfl, (Below.refl _ _).alloc (Nat.le_refl _) _⟩

theorem fits_no (t : Int) (A : Option Addr) (n c : Nat) (w : World) (h : 2147483647 < n) :
    Calls Try.prog 6 #[.agg #[.int .i64 t, .slice A n c]] w fun e w' => e = .returned (.bool false) ∧ Below w.heap.size w w' := by
  have d : decide (2147483647 < n) = true := by simp; omega
  go_enter Try.func6, Try.ntmps6
  go_wp2
  go_ret
  exact ⟨rfl, (Below.refl _ _).alloc (Nat.le_refl _) _⟩

/-! ### copied: function 13 -/
/-- What a copy of xs ends in: a slice that reads as xs, in memory that is new. -/
def CopyPost (xs : List Int) (w : World) (e : Ending) (w' : World) : Prop :=
  ∃ A c, e = .returned (.slice A xs.length c) ∧ Row w' A c xs ∧ (∀ b off, A = some ⟨b, off, none⟩ → w.heap.size ≤ b) ∧ Below w.heap.size w w'

theorem row_of_own {w : World} {base : Nat} {v : Value} {xs : List Int} (h : w.ownsRow base 5 1 v xs.length (xs.map (Value.int .u8))) :
    ∃ A c, v = .slice A xs.length c ∧ Row w A c xs ∧ ∀ b off, A = some ⟨b, off, none⟩ → base ≤ b := by
  rcases h.2 with ⟨rfl, h0⟩ | ⟨g, cap, cur, rfl, hb, _⟩
  · obtain rfl : xs = [] := List.eq_nil_of_length_eq_zero h0
    exact ⟨none, 0, rfl, ⟨fun _ => ⟨rfl, rfl⟩, fun k x hk => by simp at hk⟩, fun b off e => by cases e⟩
  · refine ⟨_, _, rfl, ⟨fun e => (by cases e), fun k x hk => ⟨g, 0, rfl, ?_⟩⟩, fun b off e => ?_⟩
    · have := h.cells (g := g) rfl k (.int .u8 x) (by rw [List.getElem?_map, hk]; rfl)
      rwa [Addr.add_lit] at this
    · injection e with e
      injection e with e1 e2
      omega

theorem info5 : (Try.prog.info? 5).map (fun i => (i.zero, i.size, i.bytes)) = some (some (.int .u8 0), 1, 1) := by kernel_rfl

theorem copied_any (A : Option Addr) (c : Nat) (xs : List Int) (w : World) (hr : Row w A c xs) (hn : xs.length ≤ 65535) :
    Calls Try.prog 13 #[.slice A xs.length c] w (CopyPost xs w) := by
  obtain ⟨i0, hi, hz0, hz1, hz2⟩ := info_parts info5
  rcases A with _ | ad
  · obtain ⟨rfl, rfl⟩ := hr.1 rfl
    go_enter Try.func13, Try.ntmps13
    go_wp2_with (at_builtin; refine wpList_append_own_none rfl _ _ 25 rfl w.heap.size 5 i0 1 Try.underlying25 hi _ _ _ rfl (World.ownsRow_nil _ _ _ _) rfl ?_)
    go_ret
    exact ⟨none, 0, rfl, hr, (fun b off e => by cases e), Below.refl _ _⟩
  · have hnews : ∀ j u, (xs.map (Value.int .u8))[j]? = some u → w.cell? (ad.add j) = some u := by
      intro j u hu
      rw [List.getElem?_map, Option.map_eq_some_iff] at hu
      obtain ⟨x, hx, rfl⟩ := hu
      obtain ⟨b, off, e, hc⟩ := hr.2 j x hx
      injection e with e
      subst e
      rw [Addr.add_lit]
      exact hc
    clear hr
    go_enter Try.func13, Try.ntmps13
    have c1 : (xs.map (Value.int .u8)).length = xs.length * 1 := by simp
    have c2 : ∀ u ∈ xs.map (Value.int .u8), u.oneCell' = true := by simp [Value.oneCell']
    have c3 : 0 + xs.length ≤ maxLen := by simp only [maxLen]; omega
    have c4 : (0 + xs.length) * 1 ≤ 140737488355328 := by omega
    go_wp2_with (at_builtin; refine wpList_append_own _ rfl _ _ 25 rfl w.heap.size 5 i0 (.int .u8 0) 1 1 Try.underlying25 hi hz0 hz1 hz2 rfl (by decide) (.slice none 0 0) 0 [] rfl (World.ownsRow_nil _ _ _ _) ad _ _ (xs.map (Value.int .u8)) rfl c1 hnews c2 c3 c4 (Nat.le_refl _) ?_; intro v' w1 hown hg _)
    simp only [Nat.zero_add, List.nil_append] at hown
    obtain ⟨A', c', rfl, hrow, hnew⟩ := row_of_own hown
    have hbel : Below w.heap.size w w1 := (Below.refl _ _).grown hg (Nat.le_refl _) (fun k hk => by simp [Value.ownBlock] at hk)
    go_wp2
    go_ret
    exact ⟨A', c', rfl, hrow, hnew, hbel⟩

end Go.Proofs.Ytdinlhibglkgpaa.Same
