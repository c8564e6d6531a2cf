import Derived.Test.Qxb6616288aRch
import Derived.RegionTactic
import Derived.BigRegion
import Derived.BigQuiet
import Derived.Deep.QuietTactic
namespace Go.Proofs.Qxb6616288a
open Go.RowKit

theorem or_lo (i : Nat) (y x : Int) (hy0 : 0 ≤ y) (hy1 : y < 18446744073709551616) (h0 : 0 ≤ x) (h1 : x < 18446744073709551616) (hx : x.toNat % 2 ^ i = 0) (hy : y.toNat < 2 ^ i) : bits .or .u64 y x = y + x := by
  rw [u64_or y x hy0 hy1 h0 h1, Nat.or_comm, nat_join i x.toNat y.toNat hx hy]
  omega
theorem or8 {x y : Int} (hy₀ : 0 ≤ y) (hy : y < 256) (hx₀ : 0 ≤ x) (hx : x % 256 = 0) (hx₁ : x < 18446744073709551616) : bits .or .u64 y x = y + x := or_lo 8 y x hy₀ (by omega) hx₀ hx₁ (by omega) (by omega)
theorem or16 {x y : Int} (hy₀ : 0 ≤ y) (hy : y < 65536) (hx₀ : 0 ≤ x) (hx : x % 65536 = 0) (hx₁ : x < 18446744073709551616) : bits .or .u64 y x = y + x := or_lo 16 y x hy₀ (by omega) hx₀ hx₁ (by omega) (by omega)
theorem or24 {x y : Int} (hy₀ : 0 ≤ y) (hy : y < 16777216) (hx₀ : 0 ≤ x) (hx : x % 16777216 = 0) (hx₁ : x < 18446744073709551616) : bits .or .u64 y x = y + x := or_lo 24 y x hy₀ (by omega) hx₀ hx₁ (by omega) (by omega)
theorem or32 {x y : Int} (hy₀ : 0 ≤ y) (hy : y < 4294967296) (hx₀ : 0 ≤ x) (hx : x % 4294967296 = 0) (hx₁ : x < 18446744073709551616) : bits .or .u64 y x = y + x := or_lo 32 y x hy₀ (by omega) hx₀ hx₁ (by omega) (by omega)
theorem or40 {x y : Int} (hy₀ : 0 ≤ y) (hy : y < 1099511627776) (hx₀ : 0 ≤ x) (hx : x % 1099511627776 = 0) (hx₁ : x < 18446744073709551616) : bits .or .u64 y x = y + x := or_lo 40 y x hy₀ (by omega) hx₀ hx₁ (by omega) (by omega)
theorem or48 {x y : Int} (hy₀ : 0 ≤ y) (hy : y < 281474976710656) (hx₀ : 0 ≤ x) (hx : x % 281474976710656 = 0) (hx₁ : x < 18446744073709551616) : bits .or .u64 y x = y + x := or_lo 48 y x hy₀ (by omega) hx₀ hx₁ (by omega) (by omega)
theorem or56 {x y : Int} (hy₀ : 0 ≤ y) (hy : y < 72057594037927936) (hx₀ : 0 ≤ x) (hx : x % 72057594037927936 = 0) (hx₁ : x < 18446744073709551616) : bits .or .u64 y x = y + x := or_lo 56 y x hy₀ (by omega) hx₀ hx₁ (by omega) (by omega)

theorem cell_alloc {w : World} {a : Addr} {v : Value} (ob : Obj) (h : w.cell? a = some v) (hb : a.block < w.heap.size) : (w.alloc ob).cell? a = some v :=
  (((Below.refl w.heap.size w).alloc (Nat.le_refl _) ob).cell hb).trans h

set_option maxHeartbeats 8000000 in
set_option maxRecDepth 100000 in
theorem uint64_any (g o n c : Nat) (b0 b1 b2 b3 b4 b5 b6 b7 : Int) (w : World) (hn : 8 ≤ n) (hg : g < w.heap.size)
    (c0 : w.cell? ⟨g, o, none⟩ = some (.int .u8 b0)) (c1 : w.cell? ⟨g, o + 1, none⟩ = some (.int .u8 b1)) (c2 : w.cell? ⟨g, o + 2, none⟩ = some (.int .u8 b2)) (c3 : w.cell? ⟨g, o + 3, none⟩ = some (.int .u8 b3)) (c4 : w.cell? ⟨g, o + 4, none⟩ = some (.int .u8 b4)) (c5 : w.cell? ⟨g, o + 5, none⟩ = some (.int .u8 b5)) (c6 : w.cell? ⟨g, o + 6, none⟩ = some (.int .u8 b6)) (c7 : w.cell? ⟨g, o + 7, none⟩ = some (.int .u8 b7))
    (h0 : 0 ≤ b0 ∧ b0 < 256) (h1 : 0 ≤ b1 ∧ b1 < 256) (h2 : 0 ≤ b2 ∧ b2 < 256) (h3 : 0 ≤ b3 ∧ b3 < 256) (h4 : 0 ≤ b4 ∧ b4 < 256) (h5 : 0 ≤ b5 ∧ b5 < 256) (h6 : 0 ≤ b6 ∧ b6 < 256) (h7 : 0 ≤ b7 ∧ b7 < 256) :
    Calls Try.prog 38 #[.agg #[], .slice (some ⟨g, o, none⟩) n c] w fun e w' => e = .returned (.int .u64 (b0 + b1 * 256 + b2 * 65536 + b3 * 16777216 + b4 * 4294967296 + b5 * 1099511627776 + b6 * 281474976710656 + b7 * 72057594037927936)) ∧ Below w.heap.size w w' := by
  have d0 := cell_alloc (.cells #[] 70) c0 hg
  have d1 := cell_alloc (.cells #[] 70) c1 hg
  have d2 := cell_alloc (.cells #[] 70) c2 hg
  have d3 := cell_alloc (.cells #[] 70) c3 hg
  have d4 := cell_alloc (.cells #[] 70) c4 hg
  have d5 := cell_alloc (.cells #[] 70) c5 hg
  have d6 := cell_alloc (.cells #[] 70) c6 hg
  have d7 := cell_alloc (.cells #[] 70) c7 hg
  have q0 : 0 < n := by omega
  have q1 : (1 : Int) < (n : Int) := by omega
  have q2 : (2 : Int) < (n : Int) := by omega
  have q3 : (3 : Int) < (n : Int) := by omega
  have q4 : (4 : Int) < (n : Int) := by omega
  have q5 : (5 : Int) < (n : Int) := by omega
  have q6 : (6 : Int) < (n : Int) := by omega
  have q7 : (7 : Int) < (n : Int) := by omega
  have HH : Hid ((0 ≤ b0 ∧ b0 < 256) ∧ (0 ≤ b1 ∧ b1 < 256) ∧ (0 ≤ b2 ∧ b2 < 256) ∧ (0 ≤ b3 ∧ b3 < 256) ∧ (0 ≤ b4 ∧ b4 < 256) ∧ (0 ≤ b5 ∧ b5 < 256) ∧ (0 ≤ b6 ∧ b6 < 256) ∧ (0 ≤ b7 ∧ b7 < 256)) := ⟨h0, h1, h2, h3, h4, h5, h6, h7⟩
  clear h0 h1 h2 h3 h4 h5 h6 h7
  go_enter Try.func38, Try.ntmps38
  go_wp2
  go_quiet (fail)
  go_wp2
  go_ret
  obtain ⟨⟨_, _⟩, ⟨_, _⟩, ⟨_, _⟩, ⟨_, _⟩, ⟨_, _⟩, ⟨_, _⟩, ⟨_, _⟩, ⟨_, _⟩⟩ := HH.out
  refine ⟨?_, ((Below.refl _ w).alloc (Nat.le_refl _) _).trans ⟨rfl, rfl, rfl, Nat.le_refl _, fun _ _ => rfl⟩⟩
  simp (disch := omega) only [wrap_id, or8, or16, or24, or32, or40, or48, or56]
  rfl
end Go.Proofs.Qxb6616288a
