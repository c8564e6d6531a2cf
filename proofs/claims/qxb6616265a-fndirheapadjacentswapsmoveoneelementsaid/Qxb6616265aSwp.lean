import Derived.Test.Qxb6616265aRows
import Derived.WalkKit
import Derived.WalkSpells
import Derived.WalkLawsBesides
import Derived.RegionTactic
import Derived.ChangeAlike
import Derived.BigRegion
namespace Go.Proofs.Qxb6616265a
open Go.RowKit

/-- Strings as cells. -/
def strv (xs : List ByteArray) : List Value := xs.map Value.string
theorem strv_len (xs : List ByteArray) : (strv xs).length = xs.length := by simp [strv]
theorem strv_get (xs : List ByteArray) (j : Nat) (h : j < xs.length) : (strv xs)[j]? = some (.string (xs.getD j ByteArray.empty)) := by
  simp [strv, List.getD, List.getElem?_eq_getElem h]

/-- Block g holds just these strings. -/
def Row (w : World) (g : Nat) (xs : List ByteArray) : Prop := w.heap[g]? = some (.cells (strv xs).toArray 9 (0, 0))

theorem Row.cell {w : World} {g : Nat} {xs : List ByteArray} (h : Row w g xs) (j : Nat) (hj : j < xs.length) : w.cell? ⟨g, j, none⟩ = some (.string (xs.getD j ByteArray.empty)) := by
  rw [cell_of_row w g j _ 9 (0, 0) h]
  simpa using strv_get xs j hj
theorem Row.frozen {w : World} {g : Nat} {xs : List ByteArray} (h : Row w g xs) (j : Nat) : w.frozen? ⟨g, j, none⟩ = false := frozen_of_row w g j _ 9 h
theorem Row.lt {w : World} {g : Nat} {xs : List ByteArray} (h : Row w g xs) : g < w.heap.size := by
  unfold Row at h
  exact (Array.getElem?_eq_some_iff.1 h).1
theorem Row.set {w : World} {g : Nat} {xs : List ByteArray} (h : Row w g xs) (j : Nat) (s : ByteArray) : Row (w.setCell ⟨g, j, none⟩ (.string s)) g (xs.set j s) := by
  unfold Row at h ⊢
  rw [heap_setCell_same w g j _ 9 _ h]
  simp [strv, List.map_set]
theorem Row.alike {w w' : World} {g : Nat} {xs : List ByteArray} (h : Row w g xs) (ha : w'.Alike w) : Row w' g xs := by
  unfold Row at h ⊢
  rw [ha.1, h]

theorem cell?_setCell_some {w : World} {p q : Addr} {x v : Value} (h : w.cell? q = some v) : ∃ v', (w.setCell p x).cell? q = some v' := by
  by_cases e : p = q
  · subst e; exact ⟨x, World.cell?_setCell_same w p x h⟩
  · exact ⟨v, (World.cell?_setCell_other w p q x e).trans h⟩

set_option maxRecDepth 100000 in
set_option maxHeartbeats 400000 in
theorem swap_cells (g n cap i j : Nat) (x y : ByteArray) (w : World) (hi : i < n) (hj : j < n)
    (hx : w.cell? ⟨g, i, none⟩ = some (.string x)) (hy : w.cell? ⟨g, j, none⟩ = some (.string y))
    (fx : w.frozen? ⟨g, i, none⟩ = false) (fy : w.frozen? ⟨g, j, none⟩ = false) :
    Calls Try.prog 21 #[.slice (some ⟨g, 0, none⟩) n cap, .int .i64 i, .int .i64 j] w fun e w' => e = .returned (.tuple #[]) ∧ w'.tape = w.tape ∧
      w'.Alike ((w.setCell ⟨g, i, none⟩ (.string y)).setCell ⟨g, j, none⟩ (.string x)) := by
  obtain ⟨v', hy'⟩ := cell?_setCell_some (w := w) (p := ⟨g, i, none⟩) (x := .string y) (q := ⟨g, j, none⟩) (v := .string y) hy
  go_enter Try.func21, Try.ntmps21
  go_wp2
  go_region
  all_goals (go_end0; exact ⟨rfl, rfl, rfl, rfl, rfl⟩)

/-- Two places exchanged. -/
def swp (xs : List ByteArray) (i j : Nat) : List ByteArray := (xs.set i (xs.getD j ByteArray.empty)).set j (xs.getD i ByteArray.empty)
theorem swp_len (xs : List ByteArray) (i j : Nat) : (swp xs i j).length = xs.length := by simp [swp]
theorem swp_get (xs : List ByteArray) (i j k : Nat) (hi : i < xs.length) (hj : j < xs.length) :
    (swp xs i j).getD k ByteArray.empty = if k = j then xs.getD i ByteArray.empty else if k = i then xs.getD j ByteArray.empty else xs.getD k ByteArray.empty := by
  unfold swp
  simp only [List.getD_eq_getElem?_getD, List.getElem?_set]
  by_cases h1 : k = j
  · subst h1; simp [hj]
  · by_cases h2 : k = i
    · subst h2; simp [hi, h1, Ne.symm h1]
    · simp [h1, h2, Ne.symm h1, Ne.symm h2]

theorem swap_any (g cap : Nat) (xs : List ByteArray) (i j : Nat) (w : World) (hi : i < xs.length) (hj : j < xs.length) (hr : Row w g xs) :
    Calls Try.prog 21 #[.slice (some ⟨g, 0, none⟩) xs.length cap, .int .i64 i, .int .i64 j] w fun e w' => e = .returned (.tuple #[]) ∧ Row w' g (swp xs i j) ∧ Below g w w' ∧ w'.heap.size = w.heap.size := by
  refine (swap_cells g xs.length cap i j _ _ w hi hj (hr.cell i hi) (hr.cell j hj) (hr.frozen i) (hr.frozen j)).mono ?_
  rintro e w' ⟨rfl, ht, ha⟩
  refine ⟨rfl, ((hr.set i _).set j _).alike ha, ⟨ha.2.1, ht, ha.2.2, ?_, ?_⟩, ?_⟩
  · rw [ha.1]; simp [World.setCell]
  · intro k hk
    rw [ha.1, Below.heap_setCell _ _ _ _ (by simp; omega), Below.heap_setCell _ _ _ _ (by simp; omega)]
  · rw [ha.1]; simp [World.setCell]

set_option maxHeartbeats 400000 in
theorem zzswap_any (g cap n : Nat) (xs : List ByteArray) (i j : Nat) (w : World) (hn : xs.length = n) (hi : i < n) (hj : j < n) (hr : Row w g xs) :
    Calls Try.prog 9 #[.slice (some ⟨g, 0, none⟩) n cap, .int .i64 i, .int .i64 j] w fun e w' => e = .returned (.tuple #[]) ∧ Row w' g (swp xs i j) ∧ Below g w w' ∧ w'.heap.size = w.heap.size := by
  subst hn
  go_enter Try.func9, Try.ntmps9
  go_wp2_with (go_at_call 21; refine (swap_any g cap xs i j _ hi hj hr).mono ?_; rintro e w' ⟨rfl, h1, h2, h3⟩)
  go_end0
  exact ⟨rfl, h1, h2, h3⟩

/-- The same, the two places given as integers. -/
theorem zzswap_int (g cap n : Nat) (xs : List ByteArray) (I J : Int) (i j : Nat) (w : World) (hI : I = i) (hJ : J = j) (hn : xs.length = n) (hi : i < n) (hj : j < n) (hr : Row w g xs) :
    Calls Try.prog 9 #[.slice (some ⟨g, 0, none⟩) n cap, .int .i64 I, .int .i64 J] w fun e w' => e = .returned (.tuple #[]) ∧ Row w' g (swp xs i j) ∧ Below g w w' ∧ w'.heap.size = w.heap.size := by
  subst hI hJ
  exact zzswap_any g cap n xs i j w hn hi hj hr
end Go.Proofs.Qxb6616265a
