import Derived.Test.Qxb6616288aAt
import Derived.Deep.RegionWith
import Derived.Deep.RegionHeld3
namespace Go.Proofs.Qxb6616288a
open Go.RowKit

theorem sv_sum (f : Nat → Int) (i : Nat) : sv f i = f (8 * i) + f (8 * i + 1) * 256 + f (8 * i + 2) * 65536 + f (8 * i + 3) * 16777216 + f (8 * i + 4) * 4294967296 + f (8 * i + 5) * 1099511627776 + f (8 * i + 6) * 281474976710656 + f (8 * i + 7) * 72057594037927936 := by
  simp only [sv, part]
  simp only [show 8 * i + 7 - 0 = 8 * i + 7 by omega, show 8 * i + 7 - 1 = 8 * i + 6 by omega, show 8 * i + 7 - 2 = 8 * i + 5 by omega, show 8 * i + 7 - 3 = 8 * i + 4 by omega, show 8 * i + 7 - 4 = 8 * i + 3 by omega, show 8 * i + 7 - 5 = 8 * i + 2 by omega, show 8 * i + 7 - 6 = 8 * i + 1 by omega, show 8 * i + 7 - 7 = 8 * i by omega]
  omega

/-- Uint64 at slot i of a table. -/
theorem uint64_slot (b o len n c i : Nat) (f : Nat → Int) (w : World) (hB : BS w b o f len) (hi : 8 * i + 8 ≤ len) (hn : 8 ≤ n) (hb : b < w.heap.size) (p : Nat) (hp : p = o + 8 * i) :
    Calls Try.prog 38 #[.agg #[], .slice (some ⟨b, p, none⟩) n c] w fun e w' => e = .returned (.int .u64 (sv f i)) ∧ Below w.heap.size w w' := by
  subst hp
  have k := fun (j : Nat) (hj : j < 8) => hB (8 * i + j) (by omega)
  refine (uint64_any b (o + 8 * i) n c _ _ _ _ _ _ _ _ w hn hb (k 0 (by decide)).1 (k 1 (by decide)).1 (k 2 (by decide)).1 (k 3 (by decide)).1 (k 4 (by decide)).1 (k 5 (by decide)).1 (k 6 (by decide)).1 (k 7 (by decide)).1
    (k 0 (by decide)).2 (k 1 (by decide)).2 (k 2 (by decide)).2 (k 3 (by decide)).2 (k 4 (by decide)).2 (k 5 (by decide)).2 (k 6 (by decide)).2 (k 7 (by decide)).2).mono ?_
  rintro e w' ⟨rfl, h⟩
  refine ⟨?_, h⟩
  rw [sv_sum]
  rfl

set_option maxHeartbeats 4000000 in
set_option maxRecDepth 100000 in
theorem at_any (b o len cap i : Nat) (f : Nat → Int) (w : World) (hB : BS w b o f len) (hi : 8 * i + 8 ≤ len) (hc : (len : Int) ≤ (cap : Int)) (hl : (len : Int) ≤ 1048576) (hb : b < w.heap.size) :
    Calls Try.prog 35 #[.slice (some ⟨b, o, none⟩) len cap, .int .i64 i] w fun e w' => e = .returned (.int .u64 (sv f i)) ∧ Below w.heap.size w w' := by
  have HB : Hid (BS w b o f len) := hB
  clear hB
  obtain ⟨p, hp⟩ : ∃ p : Nat, p = 8 * i := ⟨_, rfl⟩
  have h1 : IntKind.i64.wrap (8 * (i : Int)) = (p : Int) := by
    have e : IntKind.i64.wrap (8 * (i : Int)) = wrap64 (8 * (i : Int)) := by simp [IntKind.wrap, IntKind.bits, IntKind.signed, wrap64]; split <;> omega
    rw [e, wrap64_id _ (by omega) (by omega)]; omega
  have h1' : wrap64 (8 * (i : Int)) = (p : Int) := by
    rw [wrap64_id _ (by omega) (by omega)]; omega
  have h2 : (p : Int) ≤ (len : Int) := by omega
  have h3 : (0 : Int) ≤ (p : Int) := by omega
  have h4 : p ≤ len := by omega
  have h5 : ¬ cap = p := by omega
  have h6 : (cap = p) = False := by simp [h5]
  have HP : Hid (p = 8 * i) := hp
  clear hp
  go_enter Try.func35, Try.ntmps35
  go_wp2
  go_region_held3 (fun w' => True) (trivial) ((go_at_call 38; refine (uint64_slot b o len (len - p) (cap - p) i f _ (by exact HB.out) hi (by have := HP.out; omega) (by exact hb) (o + p) (by rw [HP.out])).mono ?_; rintro e w' ⟨rfl, hB2⟩; have HB2 : Hid (Below w.heap.size w w') := (Below.refl _ w).drew.trans hB2; clear hB2))
  go_wp2
  go_ret
  exact ⟨rfl, HB2.out⟩
end Go.Proofs.Qxb6616288a
