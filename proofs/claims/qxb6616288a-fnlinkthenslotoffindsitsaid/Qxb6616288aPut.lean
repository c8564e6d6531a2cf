import Derived.Test.Qxb6616288aLawA
namespace Go.Proofs.Qxb6616288a
open Go.RowKit

theorem frozen_alloc {w : World} {a : Addr} {x : Bool} (ob : Obj) (h : w.frozen? a = x) (hb : a.block < w.heap.size) : (w.alloc ob).frozen? a = x :=
  (((Below.refl w.heap.size w).alloc (Nat.le_refl _) ob).frozen hb).trans h

set_option maxHeartbeats 8000000 in
set_option maxRecDepth 100000 in
theorem put_cells (g p n c : Nat) (y0 y1 y2 y3 y4 y5 y6 y7 v : Int) (w : World) (hn : 8 ≤ n) (hg : g < w.heap.size)
    (c0 : w.cell? ⟨g, p, none⟩ = some (.int .u8 y0)) (c1 : w.cell? ⟨g, p + 1, none⟩ = some (.int .u8 y1)) (c2 : w.cell? ⟨g, p + 2, none⟩ = some (.int .u8 y2)) (c3 : w.cell? ⟨g, p + 3, none⟩ = some (.int .u8 y3)) (c4 : w.cell? ⟨g, p + 4, none⟩ = some (.int .u8 y4)) (c5 : w.cell? ⟨g, p + 5, none⟩ = some (.int .u8 y5)) (c6 : w.cell? ⟨g, p + 6, none⟩ = some (.int .u8 y6)) (c7 : w.cell? ⟨g, p + 7, none⟩ = some (.int .u8 y7))
    (hf : ∀ j, w.frozen? ⟨g, j, none⟩ = false) :
    Calls Try.prog 39 #[.agg #[], .slice (some ⟨g, p, none⟩) n c, .int .u64 v] w fun e w' => e = .returned (.tuple #[]) ∧ w' = (((((((((w.setCell ⟨g, p, none⟩ (.int .u8 (v % 256))).setCell ⟨g, p + 1, none⟩ (.int .u8 (v / 256 % 256))).setCell ⟨g, p + 2, none⟩ (.int .u8 (v / 65536 % 256))).setCell ⟨g, p + 3, none⟩ (.int .u8 (v / 16777216 % 256))).setCell ⟨g, p + 4, none⟩ (.int .u8 (v / 4294967296 % 256))).setCell ⟨g, p + 5, none⟩ (.int .u8 (v / 1099511627776 % 256))).setCell ⟨g, p + 6, none⟩ (.int .u8 (v / 281474976710656 % 256))).setCell ⟨g, p + 7, none⟩ (.int .u8 (v / 72057594037927936 % 256))).alloc (.cells #[] 70)) := by
  have d0 := cell_alloc (.cells #[] 70) c0 hg
  have d1 := cell_alloc (.cells #[] 70) c1 hg
  have d2 := cell_alloc (.cells #[] 70) c2 hg
  have d3 := cell_alloc (.cells #[] 70) c3 hg
  have d4 := cell_alloc (.cells #[] 70) c4 hg
  have d5 := cell_alloc (.cells #[] 70) c5 hg
  have d6 := cell_alloc (.cells #[] 70) c6 hg
  have d7 := cell_alloc (.cells #[] 70) c7 hg
  have ff : ∀ j, (w.alloc (.cells #[] 70)).frozen? ⟨g, j, none⟩ = false := fun j => frozen_alloc _ (hf j) hg
  have q0 : 0 < n := by omega
  have q1 : (1 : Int) < (n : Int) := by omega
  have q2 : (2 : Int) < (n : Int) := by omega
  have q3 : (3 : Int) < (n : Int) := by omega
  have q4 : (4 : Int) < (n : Int) := by omega
  have q5 : (5 : Int) < (n : Int) := by omega
  have q6 : (6 : Int) < (n : Int) := by omega
  have q7 : (7 : Int) < (n : Int) := by omega
  go_enter Try.func39, Try.ntmps39
  go_wp2
  go_end0
  exact ⟨rfl, rfl⟩

/-- All blocks but g are as they were. -/
structure Kept (g : Nat) (w w' : World) : Prop where
  os : w'.os = w.os
  tape : w'.tape = w.tape
  output : w'.output = w.output
  size : w.heap.size ≤ w'.heap.size
  block : ∀ k, k < w.heap.size → k ≠ g → w'.heap[k]? = w.heap[k]?
theorem Kept.refl (g : Nat) (w : World) : Kept g w w := ⟨rfl, rfl, rfl, Nat.le_refl _, fun _ _ _ => rfl⟩
theorem Kept.trans {g : Nat} {a b c : World} (h : Kept g a b) (k : Kept g b c) : Kept g a c :=
  ⟨k.os.trans h.os, k.tape.trans h.tape, k.output.trans h.output, Nat.le_trans h.size k.size, fun i hi hg => (k.block i (Nat.lt_of_lt_of_le hi h.size) hg).trans (h.block i hi hg)⟩
theorem Kept.of {g : Nat} {w w' : World} (h : Below w.heap.size w w') : Kept g w w' := ⟨h.os, h.tape, h.output, h.size, fun k hk _ => h.block k hk⟩
theorem Kept.set (g j : Nat) (w : World) (u : Value) : Kept g w (w.setCell ⟨g, j, none⟩ u) :=
  ⟨rfl, rfl, rfl, by simp [World.setCell], fun k _ hg => Below.heap_setCell _ _ _ _ (by simpa using hg)⟩
theorem Kept.below {g B : Nat} {w0 w w' : World} (h : Below B w0 w) (k : Kept g w w') (hB : B ≤ g) (hs : B ≤ w.heap.size) : Below B w0 w' :=
  h.trans ⟨k.os, k.tape, k.output, k.size, fun i hi => k.block i (by omega) (by omega)⟩
theorem Kept.cell {g : Nat} {w w' : World} (k : Kept g w w') {a : Addr} (ha : a.block < w.heap.size) (hg : a.block ≠ g) : w'.cell? a = w.cell? a := World.cell?_of_block (w := w) (k.block a.block ha hg)
theorem Kept.frozen {g : Nat} {w w' : World} (k : Kept g w w') {a : Addr} (ha : a.block < w.heap.size) (hg : a.block ≠ g) : w'.frozen? a = w.frozen? a := World.frozen?_of_block (w := w) (k.block a.block ha hg)
theorem Sh.kept {w w' : World} {g h : Nat} {sl : Value} {c : Int} (s : Sh w h sl c) (k : Kept g w w') (hg : h ≠ g) : Sh w' h sl c :=
  ⟨Nat.lt_of_lt_of_le s.lt k.size, (k.cell (by exact s.lt) (by exact hg)).trans s.slots, (k.cell (by exact s.lt) (by exact hg)).trans s.count, (k.frozen (by exact s.lt) (by exact hg)).trans s.free⟩

/-- Eight bytes of v written at p. -/
def put8 (ys : List Int) (p : Nat) (v : Int) : List Int := (((((((ys.set p (v % 256)).set (p + 1) (v / 256 % 256)).set (p + 2) (v / 65536 % 256)).set (p + 3) (v / 16777216 % 256)).set (p + 4) (v / 4294967296 % 256)).set (p + 5) (v / 1099511627776 % 256)).set (p + 6) (v / 281474976710656 % 256)).set (p + 7) (v / 72057594037927936 % 256)

theorem putu_any (g p n c : Nat) (ys : List Int) (v : Int) (w : World) (hn : 8 ≤ n) (hp : p + 8 ≤ ys.length) (hr : Row w g ys) :
    Calls Try.prog 39 #[.agg #[], .slice (some ⟨g, p, none⟩) n c, .int .u64 v] w fun e w' => e = .returned (.tuple #[]) ∧ Row w' g (put8 ys p v) ∧ Kept g w w' := by
  refine (put_cells g p n c _ _ _ _ _ _ _ _ v w hn hr.lt (hr.cell p (by omega)) (hr.cell (p + 1) (by omega)) (hr.cell (p + 2) (by omega)) (hr.cell (p + 3) (by omega)) (hr.cell (p + 4) (by omega)) (hr.cell (p + 5) (by omega)) (hr.cell (p + 6) (by omega)) (hr.cell (p + 7) (by omega)) (fun j => hr.frozen j)).mono ?_
  rintro e w' ⟨rfl, rfl⟩
  have h8 := (((((((hr.set p (v % 256)).set (p + 1) (v / 256 % 256)).set (p + 2) (v / 65536 % 256)).set (p + 3) (v / 16777216 % 256)).set (p + 4) (v / 4294967296 % 256)).set (p + 5) (v / 1099511627776 % 256)).set (p + 6) (v / 281474976710656 % 256)).set (p + 7) (v / 72057594037927936 % 256)
  refine ⟨rfl, h8.below ((Below.refl _ _).alloc (Nat.le_refl _) _) h8.lt, ?_⟩
  exact ((((((((Kept.set g p w _).trans (Kept.set g (p + 1) _ _)).trans (Kept.set g (p + 2) _ _)).trans (Kept.set g (p + 3) _ _)).trans (Kept.set g (p + 4) _ _)).trans (Kept.set g (p + 5) _ _)).trans (Kept.set g (p + 6) _ _)).trans (Kept.set g (p + 7) _ _)).trans (Kept.of ((Below.refl _ _).alloc (Nat.le_refl _) _))

set_option maxHeartbeats 4000000 in
set_option maxRecDepth 100000 in
theorem put_any (g len cap i : Nat) (ys : List Int) (v : Int) (w : World) (hr : Row w g ys) (hy : ys.length = len) (hi : 8 * i + 8 ≤ len) (hc : (len : Int) ≤ (cap : Int)) (hl : (len : Int) ≤ 1048576) :
    Calls Try.prog 36 #[.slice (some ⟨g, 0, none⟩) len cap, .int .i64 i, .int .u64 v] w fun e w' => e = .returned (.tuple #[]) ∧ Row w' g (put8 ys (8 * i) v) ∧ Kept g w w' := by
  have HR : Hid (Row w g ys) := hr
  have HY : Hid (ys.length = len) := hy
  clear hr hy
  obtain ⟨p, hp⟩ : ∃ p : Nat, p = 8 * i := ⟨_, rfl⟩
  have h1 : IntKind.i64.wrap (8 * (i : Int)) = (p : Int) := by
    have e : IntKind.i64.wrap (8 * (i : Int)) = wrap64 (8 * (i : Int)) := by simp [IntKind.wrap, IntKind.bits, IntKind.signed, wrap64]; split <;> omega
    rw [e, wrap64_id _ (by omega) (by omega)]; omega
  have h1' : wrap64 (8 * (i : Int)) = (p : Int) := by
    rw [wrap64_id _ (by omega) (by omega)]; omega
  have h2 : (p : Int) ≤ (len : Int) := by omega
  have h3 : (0 : Int) ≤ (p : Int) := by omega
  have h4 : p ≤ len := by omega
  have h5 : ¬ cap = p := by omega
  have h6 : (cap = p) = False := by simp [h5]
  have HP : Hid (p = 8 * i) := hp
  rw [← hp]
  clear hp
  go_enter Try.func36, Try.ntmps36
  go_wp2
  go_region_held3 (fun w' => True) (trivial) ((go_at_call 39; refine (putu_any g p (len - p) (cap - p) ys v _ (by have := HP.out; omega) (by have := HP.out; have := HY.out; omega) (by exact HR.out)).mono ?_; rintro e w' ⟨rfl, hR2, hK2⟩; have HR2 : Hid (Row w' g (put8 ys p v)) := hR2; have HK2 : Hid (Kept g w w') := (Kept.of (Below.refl _ w).drew).trans hK2; clear hR2 hK2))
  go_wp2
  go_end0
  exact ⟨rfl, HR2.out, HK2.out⟩
end Go.Proofs.Qxb6616288a
