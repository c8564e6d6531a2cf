import Derived.Test.Qxb6616288aRows
import Derived.WalkKit
import Derived.WalkSpells
import Derived.WalkLawsBesides
import Derived.Below
import Derived.Laws.BitsAllLaws
namespace Go.Proofs.Qxb6616288a
open Go.RowKit

/-- Bytes lie in block b from o on. -/
def BS (w : World) (b o : Nat) (f : Nat → Int) (len : Nat) : Prop := ∀ i, i < len → w.cell? ⟨b, o + i, none⟩ = some (.int .u8 (f i)) ∧ 0 ≤ f i ∧ f i < 256
theorem BS.below {w w' : World} {B b o len : Nat} {f : Nat → Int} (h : BS w b o f len) (hb : Below B w w') (hB : b < B) : BS w' b o f len := fun i hi =>
  ⟨(hb.cell (by exact hB)).trans (h i hi).1, (h i hi).2⟩

/-- What zzSlot has read after j rounds. -/
def part (f : Nat → Int) (base : Nat) : Nat → Int
  | 0 => 0
  | j + 1 => part f base j * 256 + f (base + 7 - j)
/-- The value of slot i. -/
def sv (f : Nat → Int) (i : Nat) : Int := part f (8 * i) 8

theorem part_bound (f : Nat → Int) (base : Nat) (hf : ∀ k, k < 8 → 0 ≤ f (base + k) ∧ f (base + k) < 256) (j : Nat) (hj : j ≤ 8) : 0 ≤ part f base j ∧ part f base j < 256 ^ j := by
  induction j with
  | zero => simp [part]
  | succ j ih =>
    obtain ⟨h0, h1⟩ := ih (by omega)
    have h2 := hf (7 - j) (by omega)
    rw [show base + (7 - j) = base + 7 - j by omega] at h2
    have e : (256 : Int) ^ (j + 1) = 256 ^ j * 256 := by rw [Int.pow_succ]
    simp only [part]
    rw [e]
    generalize (256 : Int) ^ j = P at *
    omega

theorem sv_bound (f : Nat → Int) (i : Nat) (hf : ∀ k, k < 8 → 0 ≤ f (8 * i + k) ∧ f (8 * i + k) < 256) : 0 ≤ sv f i ∧ sv f i < 18446744073709551616 := by
  have h := part_bound f (8 * i) hf 8 (Nat.le_refl _)
  exact ⟨h.1, by have := h.2; simpa [sv] using this⟩
theorem BS.svb {w : World} {b o len : Nat} {f : Nat → Int} (h : BS w b o f len) (i : Nat) (hi : 8 * i + 8 ≤ len) : 0 ≤ sv f i ∧ sv f i < 18446744073709551616 :=
  sv_bound f i fun k hk => (h (8 * i + k) (by omega)).2

theorem or_low (x y : Int) (h0 : 0 ≤ x) (h1 : x < 18446744073709551616) (hx : x % 256 = 0) (hy0 : 0 ≤ y) (hy : y < 256) : bits .or .u64 x y = x + y := by
  rw [u64_or x y h0 h1 hy0 (by omega), nat_join 8 x.toNat y.toNat (by omega) (by omega)]
  omega
theorem wrap_id (x : Int) (h0 : 0 ≤ x) (h1 : x < 18446744073709551616) : IntKind.u64.wrap x = x := by
  have e : IntKind.u64.wrap x = x % 18446744073709551616 := by simp [IntKind.wrap, IntKind.bits, IntKind.signed]
  rw [e]; omega
theorem part_step (f : Nat → Int) (base j : Nat) (hf : ∀ k, k < 8 → 0 ≤ f (base + k) ∧ f (base + k) < 256) (hj : j < 8) :
    bits .or .u64 (IntKind.u64.wrap (part f base j * 256)) (f (base + 7 - j)) = part f base (j + 1) := by
  have h := part_bound f base hf j (by omega)
  have h2 := hf (7 - j) (by omega)
  rw [show base + (7 - j) = base + 7 - j by omega] at h2
  have e : ∀ j : Fin 8, (256 : Int) ^ j.val ≤ 72057594037927936 := by decide
  have e2 := e ⟨j, hj⟩
  simp only at e2
  have hb : part f base j < 72057594037927936 := by omega
  rw [wrap_id _ (by omega) (by omega), or_low _ _ (by omega) (by omega) (by omega) h2.1 h2.2]
  simp only [part]

set_option maxRecDepth 100000 in
set_option maxHeartbeats 1000000 in
theorem slot_any (b o len cap i : Nat) (f : Nat → Int) (w : World) (hB : BS w b o f len) (hi : 8 * i + 8 ≤ len) (hl : (len : Int) ≤ 1048576) :
    Calls Try.prog 11 #[.slice (some ⟨b, o, none⟩) len cap, .int .i64 i] w fun e w' => e = .returned (.int .u64 (sv f i)) ∧ w = w' := by
  have HB : Hid (BS w b o f len) := hB
  have HF : Hid (∀ k, k < 8 → 0 ≤ f (8 * i + k) ∧ f (8 * i + k) < 256) := fun k hk => (hB (8 * i + k) (by omega)).2
  clear hB
  have hi2 : (8 * i + 8 : Int) ≤ (len : Int) := by omega
  go_enter Try.func11, Try.ntmps11
  go_wp2
  go_loop [5, 6] (fun v k => ∃ j : Nat, j ≤ 8 ∧ v = .int .u64 (part f (8 * i) j) ∧ k = .int .i64 (7 - (j : Int))) (fun _ k => (intOf k + 1).toNat)
  case atStart => exact ⟨0, by omega, rfl, rfl⟩
  case round =>
    obtain ⟨j, hj, rfl, rfl⟩ := hrel
    by_cases hlt : j < 8
    · have c := (HB.out (8 * i + 7 - j) (by omega)).1
      have HS : Hid (bits .or .u64 (IntKind.u64.wrap (part f (8 * i) j * 256)) (f (8 * i + 7 - j)) = part f (8 * i) (j + 1)) := part_step f (8 * i) j HF.out hlt
      obtain ⟨p, hp⟩ : ∃ p : Nat, p = 8 * i + 7 - j := ⟨_, rfl⟩
      rw [← hp] at c
      have HP : Hid (p = 8 * i + 7 - j) := hp
      have e1 : (8 * (i : Int) + (7 - (j : Int))) = (p : Int) := by omega
      have e2 : (p : Int) < (len : Int) := by omega
      have e3 : (0 : Int) ≤ 7 - (j : Int) := by omega
      clear hp
      go_wp2
      go_round
      case rel =>
        have b1 := HF.out (7 - j) (by omega)
        rw [show 8 * i + (7 - j) = p by have := HP.out; omega] at b1
        refine ⟨j + 1, by omega, ?_, by rw [show (7 - (j : Int) - 1) = 7 - ((j + 1 : Nat) : Int) by omega]⟩
        rw [wrap_id (f p) b1.1 (by omega), ← HS.out, HP.out]
      case measure => simp [intOf]; omega
    · have e : j = 8 := by omega
      subst e
      go_wp2
      go_ret
      exact ⟨rfl, rfl⟩

/-- A slot without its mark. -/
def clr (v : Int) : Int := bits .andNot .u64 v 4611686018427387904
/-- The used bit. -/
def usd (v : Int) : Int := bits .and .u64 v 9223372036854775808
/-- The fingerprint. -/
def fpo (v : Int) : Int := bits .and .u64 (v / 4294967296) 1073741823
/-- The unmarked slot of a record. -/
def wantI (fp off : Int) : Int := 9223372036854775808 + fp * 4294967296 + off
/-- The home slot. -/
def hm (fp : Int) (n : Nat) : Nat := (fp * n / 1073741824).toNat

theorem clr_nat (v : Int) (h0 : 0 ≤ v) (h1 : v < 18446744073709551616) : clr v = ((v.toNat &&& 13835058055282163711 : Nat) : Int) := by
  unfold clr
  rw [u64_andNot v _ h0 h1 (by decide) (by decide)]
  rfl
theorem usd_nat (v : Int) (h0 : 0 ≤ v) (h1 : v < 18446744073709551616) : usd v = ((v.toNat &&& 9223372036854775808 : Nat) : Int) := by
  unfold usd
  rw [u64_and v _ h0 h1 (by decide) (by decide)]
  rfl
theorem fpo_nat (v : Int) (h0 : 0 ≤ v) (h1 : v < 18446744073709551616) : fpo v = ((v.toNat / 4294967296 % 1073741824 : Nat) : Int) := by
  unfold fpo
  rw [u64_and _ _ (by omega) (by omega) (by decide) (by decide)]
  have e := Nat.and_two_pow_sub_one_eq_mod (v / 4294967296).toNat 30
  rw [show (1073741823 : Int).toNat = 2 ^ 30 - 1 by decide, e]
  omega
theorem fpo_bound (v : Int) (h0 : 0 ≤ v) (h1 : v < 18446744073709551616) : 0 ≤ fpo v ∧ fpo v < 1073741824 := by
  rw [fpo_nat v h0 h1]; omega
theorem clr_zero : clr 0 = 0 := by rw [clr_nat 0 (by decide) (by decide)]; rfl
theorem and_mask (a m x : Nat) (h : m &&& x = x) : a &&& m &&& x = a &&& x := by rw [Nat.and_assoc, h]
theorem clr_usd (v : Int) (h0 : 0 ≤ v) (h1 : v < 18446744073709551616) (hu : usd v ≠ 0) : clr v ≠ 0 := by
  intro hc
  rw [clr_nat v h0 h1] at hc
  rw [usd_nat v h0 h1] at hu
  have e := and_mask v.toNat 13835058055282163711 9223372036854775808 (by decide)
  have hc2 : v.toNat &&& 13835058055282163711 = 0 := by exact_mod_cast hc
  rw [hc2, Nat.zero_and] at e
  exact hu (by rw [← e]; rfl)
theorem want_bound (fp off : Int) (h0 : 0 ≤ fp) (h1 : fp < 1073741824) (o0 : 0 ≤ off) (o1 : off < 4294967296) : 0 < wantI fp off ∧ wantI fp off < 18446744073709551616 := by
  unfold wantI; omega
theorem fpo_of_clr (v fp off : Int) (hv0 : 0 ≤ v) (hv1 : v < 18446744073709551616) (h0 : 0 ≤ fp) (h1 : fp < 1073741824) (o0 : 0 ≤ off) (o1 : off < 4294967296) (hc : clr v = wantI fp off) : fpo v = fp := by
  rw [clr_nat v hv0 hv1] at hc
  rw [fpo_nat v hv0 hv1]
  have e := and_mask v.toNat 13835058055282163711 (1073741823 * 2 ^ 32) (by decide)
  have hw : v.toNat &&& 13835058055282163711 = (wantI fp off).toNat := by omega
  rw [hw] at e
  have e2 := congrArg (· / 2 ^ 32) e
  simp only [Nat.and_div_two_pow] at e2
  rw [show 1073741823 * 2 ^ 32 / 2 ^ 32 = 2 ^ 30 - 1 by decide, Nat.and_two_pow_sub_one_eq_mod, Nat.and_two_pow_sub_one_eq_mod] at e2
  unfold wantI at e2
  omega
theorem or_any (i : Nat) (x y : Int) (h0 : 0 ≤ x) (h1 : x < 18446744073709551616) (hy0 : 0 ≤ y) (hy1 : y < 18446744073709551616) (hx : x.toNat % 2 ^ i = 0) (hy : y.toNat < 2 ^ i) : bits .or .u64 x y = x + y := by
  rw [u64_or x y h0 h1 hy0 hy1, nat_join i x.toNat y.toNat hx hy]
  omega
theorem and_low (x : Int) (h0 : 0 ≤ x) (h1 : x < 4294967296) : bits .and .u64 x 4294967295 = x := by
  rw [u64_and x _ h0 (by omega) (by decide) (by decide)]
  have e := Nat.and_two_pow_sub_one_eq_mod x.toNat 32
  rw [show (4294967295 : Int).toNat = 2 ^ 32 - 1 by decide, e]
  omega
theorem want_or (fp off : Int) (h0 : 0 ≤ fp) (h1 : fp < 1073741824) (o0 : 0 ≤ off) (o1 : off < 4294967296) : bits .or .u64 (bits .or .u64 9223372036854775808 (fp * 4294967296)) off = wantI fp off := by
  rw [or_any 63 9223372036854775808 (fp * 4294967296) (by decide) (by decide) (by omega) (by omega) (by decide) (by omega), or_any 32 _ off (by omega) (by omega) (by omega) (by omega) (by omega) (by omega)]
  rfl

set_option maxHeartbeats 400000 in
theorem want_any (fp off : Int) (w : World) (h0 : 0 ≤ fp) (h1 : fp < 1073741824) (o0 : 0 ≤ off) (o1 : off < 4294967296) :
    Calls Try.prog 10 #[.int .u64 fp, .int .i64 off] w fun e w' => e = .returned (.int .u64 (wantI fp off)) ∧ w = w' := by
  go_enter Try.func10, Try.ntmps10
  go_wp2
  go_ret
  refine ⟨?_, rfl⟩
  rw [and_low off o0 o1, want_or fp off h0 h1 o0 o1]
  rfl
set_option maxHeartbeats 400000 in
theorem slotFor_any (fp off : Int) (w : World) (h0 : 0 ≤ fp) (h1 : fp < 1073741824) (o0 : 0 ≤ off) (o1 : off < 4294967296) :
    Calls Try.prog 32 #[.int .u64 fp, .int .i64 off] w fun e w' => e = .returned (.int .u64 (wantI fp off)) ∧ w = w' := by
  go_enter Try.func32, Try.ntmps32
  go_wp2
  go_ret
  refine ⟨?_, rfl⟩
  rw [want_or fp off h0 h1 o0 o1]
  rfl

theorem hm_spec (fp : Int) (n : Nat) (h0 : 0 ≤ fp) (h1 : fp < 1073741824) (hn : 1 ≤ n) : ((hm fp n : Nat) : Int) = fp * n / 1073741824 ∧ hm fp n < n := by
  have e0 : 0 ≤ fp * n := Int.mul_nonneg h0 (by omega)
  have e1 : fp * n < 1073741824 * n := Int.mul_lt_mul_of_pos_right h1 (by omega)
  unfold hm
  generalize fp * (n : Int) = x at *
  omega
theorem home_bound (fp : Int) (n : Nat) (h0 : 0 ≤ fp) (h1 : fp < 1073741824) (hn : 1 ≤ n) (hn2 : (n : Int) ≤ 4096) : 0 ≤ fp * n ∧ fp * n < 18446744073709551616 := by
  have e0 : 0 ≤ fp * n := Int.mul_nonneg h0 (by omega)
  have e1 : fp * n < 1073741824 * n := Int.mul_lt_mul_of_pos_right h1 (by omega)
  generalize fp * (n : Int) = x at *
  omega
theorem wrap64_id (x : Int) (h0 : 0 ≤ x) (h1 : x < 9223372036854775808) : wrap64 x = x := by
  unfold wrap64; omega

set_option maxHeartbeats 400000 in
theorem zzhome_any (fp : Int) (n : Nat) (w : World) (h0 : 0 ≤ fp) (h1 : fp < 1073741824) (hn : 1 ≤ n) (hn2 : (n : Int) ≤ 4096) :
    Calls Try.prog 28 #[.int .u64 fp, .int .i64 n] w fun e w' => e = .returned (.int .i64 (hm fp n)) ∧ w = w' := by
  have HS : Hid (_ ∧ _) := hm_spec fp n h0 h1 hn
  have HB : Hid (_ ∧ _) := home_bound fp n h0 h1 hn hn2
  go_enter Try.func28, Try.ntmps28
  go_wp2
  go_ret
  refine ⟨?_, rfl⟩
  obtain ⟨b0, b1⟩ := HB.out
  rw [HS.out.1, wrap_id _ b0 b1, wrap64_id _ (by omega) (by omega)]
  rfl

set_option maxHeartbeats 400000 in
theorem offok_yes (off : Int) (w : World) (o0 : 0 ≤ off) (o1 : off < 4294967296) (h2 : off ≤ 4294967295) :
    Calls Try.prog 8 #[.int .i64 off] w fun e w' => e = .returned (.bool true) ∧ w = w' := by
  go_enter Try.func8, Try.ntmps8
  go_wp2
  go_ret
  exact ⟨rfl, rfl⟩
set_option maxHeartbeats 400000 in
theorem offok_neg (off : Int) (w : World) (o0 : ¬ 0 ≤ off) :
    Calls Try.prog 8 #[.int .i64 off] w fun e w' => e = .returned (.bool false) ∧ w = w' := by
  go_enter Try.func8, Try.ntmps8
  go_wp2
  go_ret
  exact ⟨rfl, rfl⟩
set_option maxHeartbeats 400000 in
theorem offok_big (off : Int) (w : World) (o0 : 0 ≤ off) (o1 : off < 9223372036854775808) (h2 : 4294967295 < off) :
    Calls Try.prog 8 #[.int .i64 off] w fun e w' => e = .returned (.bool false) ∧ w = w' := by
  have h3 : decide (off ≤ 4294967295) = false := by simp; omega
  go_enter Try.func8, Try.ntmps8
  go_wp2
  go_ret
  refine ⟨?_, rfl⟩
  rfl
end Go.Proofs.Qxb6616288a
