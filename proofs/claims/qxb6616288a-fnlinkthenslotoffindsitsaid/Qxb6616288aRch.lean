import Derived.Test.Qxb6616288aSl
namespace Go.Proofs.Qxb6616288a
open Go.RowKit

/-- The j-th place of the run from h. -/
def pos (n h j : Nat) : Nat := (h + j) % n
/-- What zzReachableIndex has seen when it answers true. -/
structure Reach (n : Nat) (f : Nat → Int) : Prop where
  empty : ∃ e, e < n ∧ sv f e = 0
  used : ∀ p, p < n → sv f p ≠ 0 → usd (sv f p) ≠ 0
  once : ∀ p q, p < q → q < n → sv f p ≠ 0 → clr (sv f q) ≠ clr (sv f p)
  run : ∀ p, p < n → sv f p ≠ 0 → ∀ j, (∀ i, i ≤ j → pos n (hm (fpo (sv f p)) n) i ≠ p) → sv f (pos n (hm (fpo (sv f p)) n) j) ≠ 0
def RetR (e : Ending) (n : Nat) (f : Nat → Int) : Prop := ∃ r : Bool, e = .returned (.bool r) ∧ (r = true → Reach n f)
def InvA (n : Nat) (f : Nat → Int) (p : Nat) (em : Bool) : Prop := (em = true → ∃ e, e < n ∧ sv f e = 0) ∧ ∀ x, x < p → sv f x ≠ 0 → usd (sv f x) ≠ 0 ∧ ∀ q, x < q → q < n → clr (sv f q) ≠ clr (sv f x)
def InvB (f : Nat → Int) (p q : Nat) : Prop := ∀ y, p < y → y < q → clr (sv f y) ≠ clr (sv f p)
def InvC (n : Nat) (f : Nat → Int) (p : Nat) : Prop := ∀ x, x < p → sv f x ≠ 0 → ∀ j, (∀ i, i ≤ j → pos n (hm (fpo (sv f x)) n) i ≠ x) → sv f (pos n (hm (fpo (sv f x)) n) j) ≠ 0
def InvD (n : Nat) (f : Nat → Int) (p h s i : Nat) : Prop := i = pos n h s ∧ ∀ t, t < s → pos n h t ≠ p ∧ sv f (pos n h t) ≠ 0

theorem pos_lt (n h j : Nat) (hn : 1 ≤ n) : pos n h j < n := Nat.mod_lt _ (by omega)
theorem pos_next (n h j : Nat) (hn : 1 ≤ n) : pos n h (j + 1) = if pos n h j + 1 = n then 0 else pos n h j + 1 := by
  unfold pos
  have e : (h + (j + 1)) % n = ((h + j) % n + 1) % n := by rw [← Nat.add_assoc, Nat.add_mod (h + j) 1 n]; simp
  have l : (h + j) % n < n := Nat.mod_lt _ (by omega)
  rw [e]
  split
  · rename_i q; rw [q, Nat.mod_self]
  · exact Nat.mod_eq_of_lt (by omega)
theorem pos_mod (n h j : Nat) : pos n h (j % n) = pos n h j := by unfold pos; simp
theorem pos_zero (n h : Nat) (hh : h < n) : pos n h 0 = h := by unfold pos; exact Nat.mod_eq_of_lt (by omega)

theorem InvA.stepE {n : Nat} {f : Nat → Int} {p : Nat} {em : Bool} (h : InvA n f p em) (hp : p < n) (h0 : sv f p = 0) : InvA n f (p + 1) true :=
  ⟨fun _ => ⟨p, hp, h0⟩, fun x hx hne => by
    by_cases e : x = p
    · subst e; exact absurd h0 hne
    · exact h.2 x (by omega) hne⟩
theorem InvA.stepU {n : Nat} {f : Nat → Int} {p q : Nat} {em : Bool} (h : InvA n f p em) (hq : n ≤ q) (hu : usd (sv f p) ≠ 0) (hb : InvB f p q) : InvA n f (p + 1) em :=
  ⟨h.1, fun x hx hne => by
    by_cases e : x = p
    · subst e; exact ⟨hu, fun y h1 h2 => hb y h1 (by omega)⟩
    · exact h.2 x (by omega) hne⟩
theorem InvB.step {f : Nat → Int} {p q : Nat} (h : InvB f p q) (hc : clr (sv f q) ≠ clr (sv f p)) : InvB f p (q + 1) := fun y h1 h2 => by
  by_cases e : y = q
  · subst e; exact hc
  · exact h y h1 (by omega)
theorem InvC.stepE {n : Nat} {f : Nat → Int} {p : Nat} (h : InvC n f p) (h0 : sv f p = 0) : InvC n f (p + 1) := fun x hx hne => by
  by_cases e : x = p
  · subst e; exact absurd h0 hne
  · exact h x (by omega) hne
theorem InvC.stepU {n : Nat} {f : Nat → Int} {p s i : Nat} (h : InvC n f p) (hn : 1 ≤ n) (hd : InvD n f p (hm (fpo (sv f p)) n) s i) (hs : s = n ∨ i = p) : InvC n f (p + 1) := fun x hx hne => by
  by_cases e : x = p
  · subst e
    intro j hj
    rcases hs with hs | hs
    · rw [← pos_mod]
      exact (hd.2 (j % n) (by rw [hs]; exact Nat.mod_lt _ (by omega))).2
    · by_cases hjs : j < s
      · exact (hd.2 j hjs).2
      · exact absurd (hd.1.symm.trans hs) (hj s (by omega))
  · exact h x (by omega) hne
theorem InvD.step {n : Nat} {f : Nat → Int} {p h s i : Nat} (hd : InvD n f p h s i) (hp : i ≠ p) (h0 : sv f i ≠ 0) : InvD n f p h (s + 1) (pos n h (s + 1)) :=
  ⟨rfl, fun t ht => by
    by_cases e : t = s
    · subst e; rw [← hd.1]; exact ⟨hp, h0⟩
    · exact hd.2 t (by omega)⟩

theorem slot_val (b o len cap i : Nat) (f : Nat → Int) (v : Int) (w : World) (hB : BS w b o f len) (hi : 8 * i + 8 ≤ len) (hl : (len : Int) ≤ 1048576) (hv : v = sv f i) :
    Calls Try.prog 11 #[.slice (some ⟨b, o, none⟩) len cap, .int .i64 i] w fun e w' => e = .returned (.int .u64 v) ∧ w = w' := by
  subst hv; exact slot_any b o len cap i f w hB hi hl

set_option maxRecDepth 100000 in
set_option maxHeartbeats 1000000 in
theorem reach_any (b o len cap n : Nat) (f : Nat → Int) (w : World) (hB : BS w b o f len) (hl : len = 8 * n) (hn1 : 1 ≤ n) (hn2 : (n : Int) ≤ 4096) :
    Calls Try.prog 9 #[.slice (some ⟨b, o, none⟩) len cap] w fun e w' => RetR e n f ∧ w = w' := by
  have HB : Hid (BS w b o f len) := hB
  have HL : Hid (len = 8 * n) := hl
  have hd : (len : Int).tdiv 8 = (n : Int) := by rw [Int.tdiv_eq_ediv_of_nonneg (by omega)]; omega
  have hl2 : (len : Int) ≤ 1048576 := by omega
  clear hB hl
  go_enter Try.func9, Try.ntmps9
  go_wp2
  go_loop [4, 5] (fun em p => ∃ (k : Nat) (r : Bool), k ≤ n ∧ em = .bool r ∧ p = .int .i64 k ∧ Hid (InvA n f k r)) (fun _ p => n - (intOf p).toNat)
  case atStart => exact ⟨0, false, Nat.zero_le _, rfl, rfl, ⟨fun h => (by cases h), fun x hx => (by omega)⟩⟩
  case round =>
    obtain ⟨k, r, hk, rfl, rfl, HA⟩ := hrel
    by_cases hlt : k < n
    · obtain ⟨v, hv⟩ : ∃ v, v = sv f k := ⟨_, rfl⟩
      have HV : Hid (v = sv f k) := hv
      clear hv
      by_cases h0 : v = 0
      · have h0b : (v == 0) = true := by simpa using h0
        have H0 : Hid (v = 0) := h0
        clear h0
        go_wp2_with (go_at_call 11; refine (slot_val b o len cap k f v _ HB.out (by have := HL.out; omega) hl2 HV.out).mono ?_; rintro e w' ⟨rfl, rfl⟩)
        exact ⟨⟨k + 1, true, by omega, rfl, by go_num, HA.out.stepE hlt (HV.out ▸ H0.out)⟩, by simp [intOf]; omega⟩
      · have h0b : (v == 0) = false := by simpa using h0
        have H0 : Hid (v ≠ 0) := h0
        clear h0
        by_cases hu : usd v = 0
        · have hub : (bits .and .u64 v 9223372036854775808 == 0) = true := by simpa [usd] using hu
          clear hu
          go_wp2_with (go_at_call 11; refine (slot_val b o len cap k f v _ HB.out (by have := HL.out; omega) hl2 HV.out).mono ?_; rintro e w' ⟨rfl, rfl⟩)
          go_ret
          exact ⟨⟨false, rfl, fun h => by cases h⟩, rfl⟩
        · have hub : (bits .and .u64 v 9223372036854775808 == 0) = false := by simpa [usd] using hu
          have HU : Hid (usd v ≠ 0) := hu
          clear hu
          go_wp2_with (go_at_call 11; refine (slot_val b o len cap k f v _ HB.out (by have := HL.out; omega) hl2 HV.out).mono ?_; rintro e w' ⟨rfl, rfl⟩)
          go_loop [7] (fun q => ∃ y : Nat, k < y ∧ y ≤ n ∧ q = .int .i64 y ∧ Hid (InvB f k y)) (fun q => n - (intOf q).toNat)
          case atStart => exact ⟨k + 1, by omega, by omega, by go_num, fun y h1 h2 => by omega⟩
          case round =>
            obtain ⟨y, hy1, hy2, rfl, HI⟩ := hrel
            by_cases hyl : y < n
            · obtain ⟨u, hu⟩ : ∃ u, u = sv f y := ⟨_, rfl⟩
              have HY : Hid (u = sv f y) := hu
              clear hu
              by_cases hc : clr u = clr v
              · have hcb : (bits .andNot .u64 u 4611686018427387904 == bits .andNot .u64 v 4611686018427387904) = true := by simpa [clr] using hc
                clear hc
                go_wp2_with (go_at_call 11; refine (slot_val b o len cap y f u _ HB.out (by have := HL.out; omega) hl2 HY.out).mono ?_; rintro e w' ⟨rfl, rfl⟩)
                go_ret
                exact ⟨⟨false, rfl, fun h => by cases h⟩, rfl⟩
              · have hcb : (bits .andNot .u64 u 4611686018427387904 == bits .andNot .u64 v 4611686018427387904) = false := by simpa [clr] using hc
                have HC : Hid (clr u ≠ clr v) := hc
                clear hc
                go_wp2_with (go_at_call 11; refine (slot_val b o len cap y f u _ HB.out (by have := HL.out; omega) hl2 HY.out).mono ?_; rintro e w' ⟨rfl, rfl⟩)
                go_round
                case rel => exact ⟨y + 1, by omega, by omega, by go_num, HI.out.step (by rw [← HY.out, ← HV.out]; exact HC.out)⟩
                case measure => simp [intOf]; omega
            · go_wp2
              go_round
              case rel => exact ⟨k + 1, r, by omega, rfl, by go_num, HA.out.stepU (by omega) (HV.out ▸ HU.out) HI.out⟩
              case measure => simp [intOf]; omega
    · have ek : k = n := by omega
      subst ek
      cases r with
      | false =>
        go_wp2
        go_ret
        exact ⟨⟨false, rfl, fun h => by cases h⟩, rfl⟩
      | true =>
        go_wp2
        go_loop [8] (fun p => ∃ x : Nat, x ≤ k ∧ p = .int .i64 x ∧ Hid (InvC k f x)) (fun p => k - (intOf p).toNat)
        case atStart => exact ⟨0, Nat.zero_le _, rfl, fun x hx => by omega⟩
        case round =>
          obtain ⟨x, hx, rfl, HC⟩ := hrel
          by_cases hxl : x < k
          · obtain ⟨v, hv⟩ : ∃ v, v = sv f x := ⟨_, rfl⟩
            have HV : Hid (v = sv f x) := hv
            have HVB : Hid (0 ≤ v ∧ v < 18446744073709551616) := hv ▸ HB.out.svb x (by have := HL.out; omega)
            clear hv
            by_cases h0 : v = 0
            · have h0b : (v == 0) = true := by simpa using h0
              have H0 : Hid (v = 0) := h0
              clear h0
              go_wp2_with (go_at_call 11; refine (slot_val b o len cap x f v _ HB.out (by have := HL.out; omega) hl2 HV.out).mono ?_; rintro e w' ⟨rfl, rfl⟩)
              exact ⟨⟨x + 1, by omega, by go_num, HC.out.stepE (HV.out ▸ H0.out)⟩, by simp [intOf]; omega⟩
            · have h0b : (v == 0) = false := by simpa using h0
              have H0 : Hid (v ≠ 0) := h0
              clear h0
              obtain ⟨φ, hφ⟩ : ∃ φ, φ = fpo v := ⟨_, rfl⟩
              have HF : Hid (φ = fpo v) := hφ
              have HFB : Hid (0 ≤ φ ∧ φ < 1073741824) := hφ ▸ fpo_bound v HVB.out.1 HVB.out.2
              have hφ2 : bits .and .u64 (v / 4294967296) 1073741823 = φ := hφ.symm
              clear hφ
              go_wp2_with (first | (go_at_call 11; refine (slot_val b o len cap x f v _ HB.out (by have := HL.out; omega) hl2 HV.out).mono ?_; rintro e w' ⟨rfl, rfl⟩) | (go_at_call 28; refine (zzhome_any φ k _ HFB.out.1 HFB.out.2 hn1 hn2).mono ?_; rintro e w' ⟨rfl, rfl⟩))
              have hh := (hm_spec φ k HFB.out.1 HFB.out.2 hn1).2
              have HH : Hid (hm φ k < k) := hh
              clear hh
              go_loop [10, 11] (fun i st => ∃ (y s : Nat), y < k ∧ s ≤ k ∧ i = .int .i64 y ∧ st = .int .i64 s ∧ Hid (InvD k f x (hm φ k) s y)) (fun _ st => k - (intOf st).toNat)
              case atStart => exact ⟨hm φ k, 0, HH.out, Nat.zero_le _, rfl, rfl, (pos_zero k _ HH.out).symm, fun t ht => (by omega)⟩
              case round =>
                obtain ⟨y, s, hy, hs, rfl, rfl, HD⟩ := hrel
                by_cases hsl : s < k
                · by_cases hyx : y = x
                  · have hyb : ((y : Int) == (x : Int)) = true := by simp; omega
                    have HX : Hid (y = x) := hyx
                    clear hyx
                    go_wp2
                    go_round
                    case rel => exact ⟨x + 1, by omega, by go_num, HC.out.stepU hn1 (HV.out ▸ HF.out ▸ HD.out) (Or.inr HX.out)⟩
                    case measure => simp [intOf]; omega
                  · have hyb : ((y : Int) == (x : Int)) = false := by simp; omega
                    have HX : Hid (y ≠ x) := hyx
                    clear hyx
                    obtain ⟨u, hu⟩ : ∃ u, u = sv f y := ⟨_, rfl⟩
                    have HY : Hid (u = sv f y) := hu
                    clear hu
                    by_cases hu0 : u = 0
                    · have hub : (u == 0) = true := by simpa using hu0
                      clear hu0
                      go_wp2_with (go_at_call 11; refine (slot_val b o len cap y f u _ HB.out (by have := HL.out; omega) hl2 HY.out).mono ?_; rintro e w' ⟨rfl, rfl⟩)
                      go_ret
                      exact ⟨⟨false, rfl, fun h => by cases h⟩, rfl⟩
                    · have hub : (u == 0) = false := by simpa using hu0
                      have HU0 : Hid (u ≠ 0) := hu0
                      clear hu0
                      have HN : Hid (_ = _) := pos_next k (hm φ k) s hn1
                      by_cases hw : y + 1 = k
                      · have hwb : ((y : Int) + 1 == (k : Int)) = true := by simp; omega
                        have HW : Hid (y + 1 = k) := hw
                        clear hw
                        go_wp2_with (go_at_call 11; refine (slot_val b o len cap y f u _ HB.out (by have := HL.out; omega) hl2 HY.out).mono ?_; rintro e w' ⟨rfl, rfl⟩)
                        go_round
                        case rel =>
                          have q := HD.out.step HX.out (HY.out ▸ HU0.out)
                          rw [HN.out, ← HD.out.1, if_pos HW.out] at q
                          exact ⟨0, s + 1, by omega, by omega, by go_num, by go_num, q⟩
                        case measure => simp [intOf]; omega
                      · have hwb : ((y : Int) + 1 == (k : Int)) = false := by simp; omega
                        have HW : Hid (y + 1 ≠ k) := hw
                        clear hw
                        go_wp2_with (go_at_call 11; refine (slot_val b o len cap y f u _ HB.out (by have := HL.out; omega) hl2 HY.out).mono ?_; rintro e w' ⟨rfl, rfl⟩)
                        go_round
                        case rel =>
                          have q := HD.out.step HX.out (HY.out ▸ HU0.out)
                          rw [HN.out, ← HD.out.1, if_neg HW.out] at q
                          exact ⟨y + 1, s + 1, by have := HW.out; omega, by omega, by go_num, by go_num, q⟩
                        case measure => simp [intOf]; omega
                · go_wp2
                  go_round
                  case rel => exact ⟨x + 1, by omega, by go_num, HC.out.stepU hn1 (HV.out ▸ HF.out ▸ HD.out) (Or.inl (by omega))⟩
                  case measure => simp [intOf]; omega
          · go_wp2
            go_ret
            refine ⟨⟨true, rfl, fun _ => ?_⟩, rfl⟩
            have ex : x = k := by omega
            rw [ex] at HC
            exact ⟨HA.out.1 rfl, fun p hp h0 => (HA.out.2 p hp h0).1, fun p q h1 h2 h0 => (HA.out.2 p (by omega) h0).2 q h1 h2, fun p hp h0 => HC.out p hp h0⟩
end Go.Proofs.Qxb6616288a
