import Derived.Test.Qxb6616288aLnk
namespace Go.Proofs.Qxb6616288a
open Go.RowKit

def RetH (e : Ending) (n : Nat) (f : Nat → Int) (W : Int) : Prop := ∃ r : Bool, e = .returned (.bool r) ∧ (r = false → ∀ k, k < n → clr (sv f k) ≠ W)
def InvH (f : Nat → Int) (W : Int) (k : Nat) : Prop := ∀ x, x < k → clr (sv f x) ≠ W

set_option maxRecDepth 100000 in
set_option maxHeartbeats 1000000 in
theorem holds_any (b o len cap n : Nat) (f : Nat → Int) (W : Int) (w : World) (hB : BS w b o f len) (hl : len = 8 * n) (hn2 : (n : Int) ≤ 4096) :
    Calls Try.prog 17 #[.slice (some ⟨b, o, none⟩) len cap, .int .u64 W] w fun e w' => RetH e n f W ∧ w = w' := by
  have HB : Hid (BS w b o f len) := hB
  have HL : Hid (len = 8 * n) := hl
  have hd : (len : Int).tdiv 8 = (n : Int) := by rw [Int.tdiv_eq_ediv_of_nonneg (by omega)]; omega
  have hl2 : (len : Int) ≤ 1048576 := by omega
  clear hB hl
  go_enter Try.func17, Try.ntmps17
  go_wp2
  go_loop [5] (fun p => ∃ k : Nat, k ≤ n ∧ p = .int .i64 k ∧ Hid (InvH f W k)) (fun p => n - (intOf p).toNat)
  case atStart => exact ⟨0, Nat.zero_le _, rfl, fun x hx => (by omega)⟩
  case round =>
    obtain ⟨k, hk, rfl, HI⟩ := hrel
    by_cases hlt : k < n
    · obtain ⟨v, hv⟩ : ∃ v, v = sv f k := ⟨_, rfl⟩
      have HV : Hid (v = sv f k) := hv
      clear hv
      by_cases hc : clr v = W
      · have hcb : (bits .andNot .u64 v 4611686018427387904 == W) = true := by simpa [clr] using hc
        clear hc
        go_wp2_with (go_at_call 11; refine (slot_val b o len cap k f v _ HB.out (by have := HL.out; omega) hl2 HV.out).mono ?_; rintro e w' ⟨rfl, rfl⟩)
        go_ret
        exact ⟨⟨true, rfl, fun h => by cases h⟩, rfl⟩
      · have hcb : (bits .andNot .u64 v 4611686018427387904 == W) = false := by simpa [clr] using hc
        have HC : Hid (clr v ≠ W) := hc
        clear hc
        go_wp2_with (go_at_call 11; refine (slot_val b o len cap k f v _ HB.out (by have := HL.out; omega) hl2 HV.out).mono ?_; rintro e w' ⟨rfl, rfl⟩)
        go_round
        case rel =>
          refine ⟨k + 1, by omega, by go_num, fun x hx => ?_⟩
          by_cases ex : x = k
          · subst ex; rw [← HV.out]; exact HC.out
          · exact HI.out x (by omega)
        case measure => simp [intOf]; omega
    · go_wp2
      go_ret
      refine ⟨⟨false, rfl, fun _ x hx => HI.out x (by omega)⟩, rfl⟩

/-- The first empty place of the run from h. -/
def First (n h : Nat) (f : Nat → Int) (i : Nat) : Prop := ∃ s, s < n ∧ i = pos n h s ∧ sv f i = 0 ∧ ∀ t, t < s → sv f (pos n h t) ≠ 0
def InvF (n h : Nat) (f : Nat → Int) (s i : Nat) : Prop := i = pos n h s ∧ ∀ t, t < s → sv f (pos n h t) ≠ 0
theorem InvF.step {n h : Nat} {f : Nat → Int} {s i : Nat} (hd : InvF n h f s i) (h0 : sv f i ≠ 0) : InvF n h f (s + 1) (pos n h (s + 1)) :=
  ⟨rfl, fun t ht => by
    by_cases e : t = s
    · subst e; rw [← hd.1]; exact h0
    · exact hd.2 t (by omega)⟩

set_option maxRecDepth 100000 in
set_option maxHeartbeats 1000000 in
theorem first_any (b o len cap n : Nat) (f : Nat → Int) (fp : Int) (w : World) (hB : BS w b o f len) (hl : len = 8 * n) (hn1 : 1 ≤ n) (hn2 : (n : Int) ≤ 4096) (f0 : 0 ≤ fp) (f1 : fp < 1073741824) (he : ∃ e, e < n ∧ sv f e = 0) :
    Calls Try.prog 18 #[.slice (some ⟨b, o, none⟩) len cap, .int .u64 fp] w fun e w' => (∃ i : Nat, First n (hm fp n) f i ∧ e = .returned (.int .i64 i)) ∧ w = w' := by
  have HB : Hid (BS w b o f len) := hB
  have HL : Hid (len = 8 * n) := hl
  have HE : Hid (∃ e, e < n ∧ sv f e = 0) := he
  have hd : (len : Int).tdiv 8 = (n : Int) := by rw [Int.tdiv_eq_ediv_of_nonneg (by omega)]; omega
  have hl2 : (len : Int) ≤ 1048576 := by omega
  have hn0 : ((n : Int) == 0) = false := by simp; omega
  have HH0 : Hid (hm fp n < n) := (hm_spec fp n f0 f1 hn1).2
  obtain ⟨h, hh⟩ : ∃ h, h = hm fp n := ⟨_, rfl⟩
  have HH : Hid (h = hm fp n) := hh
  have HN : Hid (h < n) := hh ▸ HH0.out
  rw [← hh]
  clear hB hl he hh HH0
  go_enter Try.func18, Try.ntmps18
  go_wp2_with (go_at_call 28; refine (zzhome_any fp n _ f0 f1 hn1 hn2).mono ?_; rw [← HH.out]; rintro e w' ⟨rfl, rfl⟩)
  go_loop [6, 7] (fun i st => ∃ (y s : Nat), y < n ∧ s ≤ n ∧ i = .int .i64 y ∧ st = .int .i64 s ∧ Hid (InvF n h f s y)) (fun _ st => n - (intOf st).toNat)
  case atStart => exact ⟨h, 0, HN.out, Nat.zero_le _, rfl, rfl, (pos_zero n h HN.out).symm, fun t ht => (by omega)⟩
  case round =>
    obtain ⟨y, s, hy, hs, rfl, rfl, HD⟩ := hrel
    have hsl : s < n := by
      by_cases q : s < n
      · exact q
      · obtain ⟨e, e1, e2⟩ := HE.out
        obtain ⟨p1, p2⟩ := pos_sd n h e HN.out e1
        exact absurd (by rw [p1]; exact e2) (HD.out.2 (sd n h e) (by omega))
    obtain ⟨u, hu⟩ : ∃ u, u = sv f y := ⟨_, rfl⟩
    have HY : Hid (u = sv f y) := hu
    clear hu
    by_cases hu0 : u = 0
    · have hub : (u == 0) = true := by simpa using hu0
      have HU0 : Hid (u = 0) := hu0
      clear hu0
      go_wp2_with (go_at_call 11; refine (slot_val b o len cap y f u _ HB.out (by have := HL.out; omega) hl2 HY.out).mono ?_; rintro e w' ⟨rfl, rfl⟩)
      go_ret
      exact ⟨⟨y, ⟨s, hsl, HD.out.1, HY.out ▸ HU0.out, HD.out.2⟩, rfl⟩, rfl⟩
    · have hub : (u == 0) = false := by simpa using hu0
      have HU0 : Hid (u ≠ 0) := hu0
      clear hu0
      have HNx : Hid (_ = _) := pos_next n h s hn1
      by_cases hw : y + 1 = n
      · have hwb : ((y : Int) + 1 == (n : Int)) = true := by simp; omega
        have HW : Hid (y + 1 = n) := hw
        clear hw
        go_wp2_with (go_at_call 11; refine (slot_val b o len cap y f u _ HB.out (by have := HL.out; omega) hl2 HY.out).mono ?_; rintro e w' ⟨rfl, rfl⟩)
        go_round
        case rel =>
          have q := HD.out.step (HY.out ▸ HU0.out)
          rw [HNx.out, ← HD.out.1, if_pos HW.out] at q
          exact ⟨0, s + 1, by omega, by omega, by go_num, by go_num, q⟩
        case measure => simp [intOf]; omega
      · have hwb : ((y : Int) + 1 == (n : Int)) = false := by simp; omega
        have HW : Hid (y + 1 ≠ n) := hw
        clear hw
        go_wp2_with (go_at_call 11; refine (slot_val b o len cap y f u _ HB.out (by have := HL.out; omega) hl2 HY.out).mono ?_; rintro e w' ⟨rfl, rfl⟩)
        go_round
        case rel =>
          have q := HD.out.step (HY.out ▸ HU0.out)
          rw [HNx.out, ← HD.out.1, if_neg HW.out] at q
          exact ⟨y + 1, s + 1, by have := HW.out; omega, by omega, by go_num, by go_num, q⟩
        case measure => simp [intOf]; omega

/-! ### Plain laws of the written slot -/
theorem set_get (xs : List Int) (k j : Nat) (a : Int) (hk : k < xs.length) : (xs.set k a).getD j 0 = if j = k then a else xs.getD j 0 := by
  simp only [List.getD, List.getElem?_set]
  by_cases e : j = k
  · subst e; simp [hk]
  · simp [e, Ne.symm e]
theorem put8_len (ys : List Int) (p : Nat) (v : Int) : (put8 ys p v).length = ys.length := by simp [put8]
theorem put8_get (ys : List Int) (p j : Nat) (v : Int) (hp : p + 8 ≤ ys.length) : (put8 ys p v).getD j 0 =
    if j = p + 7 then v / 72057594037927936 % 256 else if j = p + 6 then v / 281474976710656 % 256 else if j = p + 5 then v / 1099511627776 % 256 else if j = p + 4 then v / 4294967296 % 256 else if j = p + 3 then v / 16777216 % 256 else if j = p + 2 then v / 65536 % 256 else if j = p + 1 then v / 256 % 256 else if j = p then v % 256 else ys.getD j 0 := by
  unfold put8
  rw [set_get _ _ _ _ (by simp; omega), set_get _ _ _ _ (by simp; omega), set_get _ _ _ _ (by simp; omega), set_get _ _ _ _ (by simp; omega), set_get _ _ _ _ (by simp; omega), set_get _ _ _ _ (by simp; omega), set_get _ _ _ _ (by simp; omega), set_get _ _ _ _ (by omega)]
theorem put8_out (ys : List Int) (p j : Nat) (v : Int) (hp : p + 8 ≤ ys.length) (h : j < p ∨ p + 8 ≤ j) : (put8 ys p v).getD j 0 = ys.getD j 0 := by
  rw [put8_get ys p j v hp, if_neg (by omega), if_neg (by omega), if_neg (by omega), if_neg (by omega), if_neg (by omega), if_neg (by omega), if_neg (by omega), if_neg (by omega)]
theorem put8_in (ys : List Int) (p j : Nat) (v : Int) (hp : p + 8 ≤ ys.length) (h : p ≤ j ∧ j < p + 8) : 0 ≤ (put8 ys p v).getD j 0 ∧ (put8 ys p v).getD j 0 < 256 := by
  rw [put8_get ys p j v hp]
  repeat' split
  all_goals omega
theorem bytes_sum (v : Int) (h0 : 0 ≤ v) (h1 : v < 18446744073709551616) : v % 256 + v / 256 % 256 * 256 + v / 65536 % 256 * 65536 + v / 16777216 % 256 * 16777216 + v / 4294967296 % 256 * 4294967296 + v / 1099511627776 % 256 * 1099511627776 + v / 281474976710656 % 256 * 281474976710656 + v / 72057594037927936 % 256 * 72057594037927936 = v := by
  omega
theorem sv_put (ys : List Int) (i : Nat) (v : Int) (hp : 8 * i + 8 ≤ ys.length) (h0 : 0 ≤ v) (h1 : v < 18446744073709551616) : sv (fun j => (put8 ys (8 * i) v).getD j 0) i = v := by
  rw [sv_sum]
  simp only [put8_get ys (8 * i) _ v hp]
  have e := bytes_sum v h0 h1
  simp
  omega
theorem sv_other (ys : List Int) (f : Nat → Int) (i k n : Nat) (v : Int) (hy : ys.length = 8 * n) (hf : ∀ j, j < 8 * n → ys.getD j 0 = f j) (hi : i < n) (hk : k < n) (hne : k ≠ i) : sv (fun j => (put8 ys (8 * i) v).getD j 0) k = sv f k := by
  have g : ∀ m, m < 8 → (put8 ys (8 * i) v).getD (8 * k + m) 0 = f (8 * k + m) := fun m hm => by
    rw [put8_out ys (8 * i) (8 * k + m) v (by omega) (by omega), hf _ (by omega)]
  rw [sv_sum, sv_sum]
  have g0 := g 0 (by decide)
  rw [Nat.add_zero] at g0
  rw [g0, g 1 (by decide), g 2 (by decide), g 3 (by decide), g 4 (by decide), g 5 (by decide), g 6 (by decide), g 7 (by decide)]

theorem want_usd (fp off : Int) (h0 : 0 ≤ fp) (h1 : fp < 1073741824) (o0 : 0 ≤ off) (o1 : off < 4294967296) : usd (wantI fp off) ≠ 0 := by
  obtain ⟨b0, b1⟩ := want_bound fp off h0 h1 o0 o1
  rw [usd_nat _ (by omega) b1, show (9223372036854775808 : Nat) = 2 ^ 63 by decide, nat_bit]
  have e : (wantI fp off).toNat / 2 ^ 63 = 1 := by unfold wantI; omega
  rw [e]
  decide
theorem want_mark (fp off : Int) (h0 : 0 ≤ fp) (h1 : fp < 1073741824) (o0 : 0 ≤ off) (o1 : off < 4294967296) : (wantI fp off).toNat &&& 2 ^ 62 = 0 := by
  rw [nat_bit]
  have e : (wantI fp off).toNat / 2 ^ 62 = 2 := by unfold wantI; omega
  rw [e]
theorem want_mark' (fp off : Int) (h0 : 0 ≤ fp) (h1 : fp < 1073741824) (o0 : 0 ≤ off) (o1 : off < 4294967296) : bits .and .u64 (wantI fp off) 4611686018427387904 = 0 := by
  obtain ⟨b0, b1⟩ := want_bound fp off h0 h1 o0 o1
  rw [u64_and _ _ (by omega) b1 (by decide) (by decide), show (4611686018427387904 : Int).toNat = 2 ^ 62 by decide, want_mark fp off h0 h1 o0 o1]
  rfl
theorem clr_want (fp off : Int) (h0 : 0 ≤ fp) (h1 : fp < 1073741824) (o0 : 0 ≤ off) (o1 : off < 4294967296) : clr (wantI fp off) = wantI fp off := by
  obtain ⟨b0, b1⟩ := want_bound fp off h0 h1 o0 o1
  rw [clr_nat _ (by omega) b1]
  have e := Nat.and_or_distrib_left (wantI fp off).toNat 13835058055282163711 (2 ^ 62)
  rw [want_mark fp off h0 h1 o0 o1, show (13835058055282163711 ||| 2 ^ 62 : Nat) = 2 ^ 64 - 1 by decide, Nat.and_two_pow_sub_one_eq_mod, Nat.or_zero] at e
  rw [← e]
  omega
theorem want_off (fp off : Int) (h0 : 0 ≤ fp) (h1 : fp < 1073741824) (o0 : 0 ≤ off) (o1 : off < 4294967296) : bits .and .u64 (wantI fp off) 4294967295 = off := by
  obtain ⟨b0, b1⟩ := want_bound fp off h0 h1 o0 o1
  rw [u64_and _ _ (by omega) b1 (by decide) (by decide), show (4294967295 : Int).toNat = 2 ^ 32 - 1 by decide, Nat.and_two_pow_sub_one_eq_mod]
  unfold wantI
  omega
end Go.Proofs.Qxb6616288a
