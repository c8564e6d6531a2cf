import Derived.Test.Qxb6616288aAt2
namespace Go.Proofs.Qxb6616288a
open Go.RowKit

/-- A shard lies in block g: its table and its count. -/
structure Sh (w : World) (g : Nat) (sl : Value) (c : Int) : Prop where
  lt : g < w.heap.size
  slots : w.cell? ⟨g, 7, none⟩ = some sl
  count : w.cell? ⟨g, 8, none⟩ = some (.int .i64 c)
  free : w.frozen? ⟨g, 8, none⟩ = false
theorem Sh.below {w w' : World} {B g : Nat} {sl : Value} {c : Int} (h : Sh w g sl c) (hb : Below B w w') (hB : g < B) : Sh w' g sl c :=
  ⟨Nat.lt_of_lt_of_le h.lt hb.size, (hb.cell (by exact hB)).trans h.slots, (hb.cell (by exact hB)).trans h.count, (hb.frozen (by exact hB)).trans h.free⟩

set_option maxRecDepth 100000 in
set_option maxHeartbeats 400000 in
theorem new_any (a : Option Addr) (len cap : Nat) (c : Int) (w : World) : Calls Try.prog 12 #[.slice a len cap, .int .i64 c] w fun e w' => e = .returned (.pointer (some ⟨w.heap.size, 0, none⟩)) ∧ Sh w' w.heap.size (.slice a len cap) c ∧ Below w.heap.size w w' := by
  go_enter Try.func12, Try.ntmps12
  go_wp2
  go_ret
  have hh : ∀ o : Obj, (w.alloc o).heap[w.heap.size]? = some o := fun o => by show (w.heap.push o)[w.heap.size]? = _; simp
  exact ⟨rfl, ⟨by simp, cell_of_row _ w.heap.size 7 _ 63 (0, 0) (hh _), cell_of_row _ w.heap.size 8 _ 63 (0, 0) (hh _), frozen_of_row _ w.heap.size 8 _ 63 (hh _)⟩, (Below.refl _ w).alloc (Nat.le_refl _) _⟩

set_option maxHeartbeats 400000 in
theorem len_any (a : Option Addr) (len cap n : Nat) (w : World) (hl : len = 8 * n) (hn2 : (n : Int) ≤ 4096) : Calls Try.prog 37 #[.slice a len cap] w fun e w' => e = .returned (.int .i64 n) ∧ w = w' := by
  have hd : (len : Int).tdiv 8 = (n : Int) := by rw [Int.tdiv_eq_ediv_of_nonneg (by omega)]; omega
  clear hl
  go_enter Try.func37, Try.ntmps37
  go_wp2
  go_ret
  exact ⟨rfl, rfl⟩

set_option maxHeartbeats 400000 in
theorem home_any (g : Nat) (a : Option Addr) (len cap n : Nat) (fp c : Int) (w : World) (hS : Sh w g (.slice a len cap) c) (hl : len = 8 * n) (h0 : 0 ≤ fp) (h1 : fp < 1073741824) (hn : 1 ≤ n) (hn2 : (n : Int) ≤ 4096) :
    Calls Try.prog 33 #[.pointer (some ⟨g, 0, none⟩), .int .u64 fp] w fun e w' => e = .returned (.int .i64 (hm fp n)) ∧ w = w' := by
  have c7 := hS.slots
  have HL : Hid (len = 8 * n) := hl
  have HS : Hid (_ ∧ _) := hm_spec fp n h0 h1 hn
  have HB : Hid (_ ∧ _) := home_bound fp n h0 h1 hn hn2
  clear hl hS
  go_enter Try.func33, Try.ntmps33
  go_wp2_with (go_at_call 37; refine (len_any a len cap n _ HL.out hn2).mono ?_; rintro e w' ⟨rfl, rfl⟩)
  go_ret
  refine ⟨?_, rfl⟩
  obtain ⟨b0, b1⟩ := HB.out
  rw [HS.out.1, wrap_id _ b0 b1, wrap64_id _ (by omega) (by omega)]
  rfl

set_option maxHeartbeats 400000 in
theorem next_any (g : Nat) (a : Option Addr) (len cap n : Nat) (c : Int) (i j : Nat) (w : World) (hS : Sh w g (.slice a len cap) c) (hl : len = 8 * n) (hn2 : (n : Int) ≤ 4096) (hi : i < n) (hj : j = if i + 1 = n then 0 else i + 1) :
    Calls Try.prog 34 #[.pointer (some ⟨g, 0, none⟩), .int .i64 i] w fun e w' => e = .returned (.int .i64 j) ∧ w = w' := by
  have c7 := hS.slots
  have HL : Hid (len = 8 * n) := hl
  clear hl hS
  by_cases e : i + 1 = n
  · have e0 : j = 0 := by rw [hj, if_pos e]
    have eb : ((i : Int) + 1 == (n : Int)) = true := by simp; omega
    clear hj
    subst e0
    go_enter Try.func34, Try.ntmps34
    go_wp2_with (go_at_call 37; refine (len_any a len cap n _ HL.out hn2).mono ?_; rintro e w' ⟨rfl, rfl⟩)
    go_ret
    exact ⟨rfl, rfl⟩
  · have e0 : j = i + 1 := by rw [hj, if_neg e]
    have eb : ((i : Int) + 1 == (n : Int)) = false := by simp; omega
    clear hj
    subst e0
    go_enter Try.func34, Try.ntmps34
    go_wp2_with (go_at_call 37; refine (len_any a len cap n _ HL.out hn2).mono ?_; rintro e w' ⟨rfl, rfl⟩)
    go_ret
    exact ⟨by simp, rfl⟩

/-- How many steps i lies from h. -/
def sd (n h i : Nat) : Nat := if h ≤ i then i - h else i + n - h
theorem sd_pos (n h s : Nat) (hh : h < n) (hs : s < n) : sd n h (pos n h s) = s := by
  unfold sd pos
  by_cases e : h + s < n
  · rw [Nat.mod_eq_of_lt e, if_pos (by omega)]; omega
  · have e2 : (h + s) % n = h + s - n := by
      rw [Nat.mod_eq_sub_mod (by omega), Nat.mod_eq_of_lt (by omega)]
    rw [e2, if_neg (by omega)]; omega
theorem pos_sd (n h i : Nat) (hh : h < n) (hi : i < n) : pos n h (sd n h i) = i ∧ sd n h i < n := by
  unfold sd pos
  by_cases e : h ≤ i
  · rw [if_pos e]
    exact ⟨by rw [Nat.mod_eq_of_lt (by omega)]; omega, by omega⟩
  · rw [if_neg e]
    refine ⟨?_, by omega⟩
    rw [show h + (i + n - h) = i + n by omega, Nat.add_mod_right, Nat.mod_eq_of_lt hi]
theorem pos_inj (n h s t : Nat) (hh : h < n) (hs : s < n) (ht : t < n) (e : pos n h s = pos n h t) : s = t := by
  rw [← sd_pos n h s hh hs, e, sd_pos n h t hh ht]

/-- The steps that slotOf goes by before it stops at step t. -/
def Goes (n h : Nat) (f : Nat → Int) (want : Int) (t : Nat) : Prop := t < n ∧ ∀ s, s < t → clr (sv f (pos n h s)) ≠ want ∧ clr (sv f (pos n h s)) ≠ 0

def meas (n h t : Nat) (v : Value) : Nat := t - sd n h (intOf v).toNat

theorem at_val (b o len cap i : Nat) (f : Nat → Int) (v : Int) (w : World) (hv : v = sv f i) (hB : BS w b o f len) (hi : 8 * i + 8 ≤ len) (hc : (len : Int) ≤ (cap : Int)) (hl : (len : Int) ≤ 1048576) (hb : b < w.heap.size) :
    Calls Try.prog 35 #[.slice (some ⟨b, o, none⟩) len cap, .int .i64 i] w fun e w' => e = .returned (.int .u64 v) ∧ Below w.heap.size w w' := by
  subst hv; exact at_any b o len cap i f w hB hi hc hl hb

set_option maxRecDepth 100000 in
set_option maxHeartbeats 2000000 in
theorem slotOf_any (g b o len cap n t : Nat) (f : Nat → Int) (fp off c R : Int) (w : World) (hS : Sh w g (.slice (some ⟨b, o, none⟩) len cap) c) (hB : BS w b o f len) (hb : b < w.heap.size) (hl : len = 8 * n) (hc : len ≤ cap)
    (h0 : 0 ≤ fp) (h1 : fp < 1073741824) (o0 : 0 ≤ off) (o1 : off < 4294967296) (hn : 1 ≤ n) (hn2 : (n : Int) ≤ 4096) (hG : Goes n (hm fp n) f (wantI fp off) t)
    (hR : (clr (sv f (pos n (hm fp n) t)) = wantI fp off ∧ R = pos n (hm fp n) t) ∨ (clr (sv f (pos n (hm fp n) t)) ≠ wantI fp off ∧ clr (sv f (pos n (hm fp n) t)) = 0 ∧ R = -1)) :
    Calls Try.prog 29 #[.pointer (some ⟨g, 0, none⟩), .int .u64 fp, .int .i64 off] w fun e w' => e = .returned (.int .i64 R) ∧ Below w.heap.size w w' := by
  have HS : Hid (Sh w g (.slice (some ⟨b, o, none⟩) len cap) c) := hS
  have HB : Hid (BS w b o f len) := hB
  have HL : Hid (len = 8 * n) := hl
  have HG : Hid (Goes n (hm fp n) f (wantI fp off) t) := hG
  have HR : Hid (_ ∨ _) := hR
  have hg := hS.lt
  have hlb : (len : Int) ≤ 1048576 := by omega
  have hcb : (len : Int) ≤ (cap : Int) := by omega
  obtain ⟨h, hh⟩ : ∃ h, h = hm fp n := ⟨_, rfl⟩
  have HH : Hid (h = hm fp n) := hh
  have HN : Hid (h < n) := hh ▸ (hm_spec fp n h0 h1 hn).2
  obtain ⟨W, hW⟩ : ∃ W, W = wantI fp off := ⟨_, rfl⟩
  have HW : Hid (W = wantI fp off) := hW
  rw [← hW, ← hh] at HR HG
  clear hS hB hl hc hG hR hh hW
  go_enter Try.func29, Try.ntmps29
  go_wp2_with (first | (go_at_call 32; refine (slotFor_any fp off _ h0 h1 o0 o1).mono ?_; rw [← HW.out]; rintro e w' ⟨rfl, rfl⟩) | (go_at_call 33; refine (home_any g _ len cap n fp c _ HS.out HL.out h0 h1 hn hn2).mono ?_; rw [← HH.out]; rintro e w' ⟨rfl, rfl⟩))
  go_loopw [8] (fun i wr => ∃ s : Nat, s ≤ t ∧ i = .int .i64 ((pos n h s : Nat) : Int) ∧ Hid (Below w.heap.size w wr)) (fun i _ => meas n h t i)
  case atStart => exact ⟨0, Nat.zero_le _, by rw [pos_zero n h HN.out], Below.refl _ _⟩
  case round =>
    obtain ⟨s, hs, rfl, HBl⟩ := hrel
    have c7 := (HS.out.below HBl.out hg).slots
    obtain ⟨i, hi⟩ : ∃ i, i = pos n h s := ⟨_, rfl⟩
    have hin : i < n := hi ▸ pos_lt n h s hn
    have HJ : Hid (pos n h (s + 1) = if i + 1 = n then 0 else i + 1) := hi ▸ pos_next n h s hn
    have HI : Hid (i = pos n h s) := hi
    rw [← hi]
    clear hi
    obtain ⟨v, hv⟩ : ∃ v, v = sv f i := ⟨_, rfl⟩
    have HV : Hid (v = sv f i) := hv
    clear hv
    by_cases hst : s < t
    · have HC : Hid (clr v ≠ W ∧ clr v ≠ 0) := by rw [HV.out, HI.out]; exact HG.out.2 s hst
      have q1 : (bits .andNot .u64 v 4611686018427387904 == W) = false := by simpa [clr] using HC.out.1
      have q2 : (bits .andNot .u64 v 4611686018427387904 == 0) = false := by simpa [clr] using HC.out.2
      go_wp2_with (first | (go_at_call 35; refine (at_val b o len cap i f v _ HV.out (HB.out.below HBl.out hb) (by have := HL.out; omega) hcb hlb (Nat.lt_of_lt_of_le hb HBl.out.size)).mono ?_; rintro e w2 ⟨rfl, hB2⟩; have HB2 : Hid (Below w.heap.size w w2) := HBl.out.trans (hB2.mono HBl.out.size); clear hB2) | (go_at_call 34; refine (next_any g _ len cap n c i (pos n h (s + 1)) _ (HS.out.below HB2.out hg) HL.out hn2 hin HJ.out).mono ?_; rintro e w' ⟨rfl, rfl⟩))
      go_roundw
      case rel => exact ⟨s + 1, by omega, rfl, HB2⟩
      case measure =>
        have tl := HG.out.1
        have a1 := sd_pos n h s HN.out (by omega)
        have a2 := sd_pos n h (s + 1) HN.out (by omega)
        rw [← HI.out] at a1
        simp only [meas, intOf, Int.toNat_natCast, a1, a2]
        omega
    · have et : s = t := by omega
      have HR2 : Hid ((clr v = W ∧ R = i) ∨ (clr v ≠ W ∧ clr v = 0 ∧ R = -1)) := by rw [HV.out, HI.out, et]; exact HR.out
      rcases HR2.out with ⟨r1, r2⟩ | ⟨r1, r2, r3⟩
      · have q1 : (bits .andNot .u64 v 4611686018427387904 == W) = true := by simpa [clr] using r1
        have HX : Hid (R = i) := r2
        clear r1 r2
        go_wp2_with (first | (go_at_call 35; refine (at_val b o len cap i f v _ HV.out (HB.out.below HBl.out hb) (by have := HL.out; omega) hcb hlb (Nat.lt_of_lt_of_le hb HBl.out.size)).mono ?_; rintro e w2 ⟨rfl, hB2⟩; have HB2 : Hid (Below w.heap.size w w2) := HBl.out.trans (hB2.mono HBl.out.size); clear hB2) | (go_at_call 34; refine (next_any g _ len cap n c i (pos n h (s + 1)) _ (HS.out.below HB2.out hg) HL.out hn2 hin HJ.out).mono ?_; rintro e w' ⟨rfl, rfl⟩))
        go_ret
        exact ⟨by rw [HX.out]; rfl, HB2.out⟩
      · have q1 : (bits .andNot .u64 v 4611686018427387904 == W) = false := by simpa [clr] using r1
        have q2 : (bits .andNot .u64 v 4611686018427387904 == 0) = true := by simpa [clr] using r2
        have HX : Hid (R = -1) := r3
        clear r1 r2 r3
        go_wp2_with (first | (go_at_call 35; refine (at_val b o len cap i f v _ HV.out (HB.out.below HBl.out hb) (by have := HL.out; omega) hcb hlb (Nat.lt_of_lt_of_le hb HBl.out.size)).mono ?_; rintro e w2 ⟨rfl, hB2⟩; have HB2 : Hid (Below w.heap.size w w2) := HBl.out.trans (hB2.mono HBl.out.size); clear hB2) | (go_at_call 34; refine (next_any g _ len cap n c i (pos n h (s + 1)) _ (HS.out.below HB2.out hg) HL.out hn2 hin HJ.out).mono ?_; rintro e w' ⟨rfl, rfl⟩))
        go_ret
        exact ⟨by rw [HX.out]; rfl, HB2.out⟩

set_option maxHeartbeats 400000 in
theorem zzslotOf_any (g b o len cap n t : Nat) (f : Nat → Int) (fp off c R : Int) (w : World) (hS : Sh w g (.slice (some ⟨b, o, none⟩) len cap) c) (hB : BS w b o f len) (hb : b < w.heap.size) (hl : len = 8 * n) (hc : len ≤ cap)
    (h0 : 0 ≤ fp) (h1 : fp < 1073741824) (o0 : 0 ≤ off) (o1 : off < 4294967296) (hn : 1 ≤ n) (hn2 : (n : Int) ≤ 4096) (hG : Goes n (hm fp n) f (wantI fp off) t)
    (hR : (clr (sv f (pos n (hm fp n) t)) = wantI fp off ∧ R = pos n (hm fp n) t) ∨ (clr (sv f (pos n (hm fp n) t)) ≠ wantI fp off ∧ clr (sv f (pos n (hm fp n) t)) = 0 ∧ R = -1)) :
    Calls Try.prog 15 #[.pointer (some ⟨g, 0, none⟩), .int .u64 fp, .int .i64 off] w fun e w' => e = .returned (.int .i64 R) ∧ Below w.heap.size w w' := by
  have H : Hid (∀ w', w' = w → Calls Try.prog 29 #[.pointer (some ⟨g, 0, none⟩), .int .u64 fp, .int .i64 off] w' fun e w' => e = .returned (.int .i64 R) ∧ Below w.heap.size w w') := fun w' e => e ▸ slotOf_any g b o len cap n t f fp off c R w hS hB hb hl hc h0 h1 o0 o1 hn hn2 hG hR
  clear hS hB hb hl hc h0 h1 o0 o1 hn hn2 hG hR
  go_enter Try.func15, Try.ntmps15
  go_wp2_with (go_at_call 29; refine (H.out _ rfl).mono ?_; rintro e w' ⟨rfl, hB⟩; have HB2 : Hid (Below w.heap.size w w') := hB; clear hB)
  go_ret
  exact ⟨rfl, HB2.out⟩
end Go.Proofs.Qxb6616288a
