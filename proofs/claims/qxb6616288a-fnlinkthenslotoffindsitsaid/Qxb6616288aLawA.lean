import Derived.Test.Qxb6616288aCl
import Derived.DataReads
namespace Go.Proofs.Qxb6616288a
open Go.RowKit

theorem least (P : Nat → Prop) (t : Nat) (h : P t) : ∃ s, s ≤ t ∧ P s ∧ ∀ r, r < s → ¬ P r := by
  induction t using Nat.strongRecOn with
  | ind t ih =>
    by_cases e : ∃ r, r < t ∧ P r
    · obtain ⟨r, h1, h2⟩ := e
      obtain ⟨s, h3, h4, h5⟩ := ih r h1 h2
      exact ⟨s, by omega, h4, h5⟩
    · exact ⟨t, Nat.le_refl _, h, fun r hr hp => e ⟨r, hr, hp⟩⟩

/-- What a search for W over the table answers. -/
def Ans (n : Nat) (f : Nat → Int) (W R : Int) : Prop := (∃ p : Nat, p < n ∧ clr (sv f p) = W ∧ R = p) ∨ ((∀ p : Nat, p < n → clr (sv f p) ≠ W) ∧ R = -1)
theorem sv_ne {f : Nat → Int} {p : Nat} {W : Int} (hW : 0 < W) (h : clr (sv f p) = W) : sv f p ≠ 0 := fun e => by rw [e, clr_zero] at h; omega
theorem Reach.uniq {n : Nat} {f : Nat → Int} (hr : Reach n f) {p q : Nat} {W : Int} (hW : 0 < W) (hp : p < n) (hq : q < n) (h1 : clr (sv f p) = W) (h2 : clr (sv f q) = W) : p = q := by
  rcases Nat.lt_trichotomy p q with h | h | h
  · exact absurd (h2.trans h1.symm) (hr.once p q h hq (sv_ne hW h1))
  · exact h
  · exact absurd (h1.trans h2.symm) (hr.once q p h hp (sv_ne hW h2))
theorem Ans.uniq {n : Nat} {f : Nat → Int} (hr : Reach n f) {W R R' : Int} (hW : 0 < W) (h1 : Ans n f W R) (h2 : Ans n f W R') : R = R' := by
  rcases h1 with ⟨p, a1, a2, a3⟩ | ⟨a1, a2⟩ <;> rcases h2 with ⟨q, b1, b2, b3⟩ | ⟨b1, b2⟩
  · rw [a3, b3, hr.uniq hW a1 b1 a2 b2]
  · exact absurd a2 (b1 p a1)
  · exact absurd b2 (a1 q b1)
  · rw [a2, b2]

/-- slotOf's road over a reachable index: it stops, and answers as the search does. -/
theorem road (n : Nat) (f : Nat → Int) (fp off : Int) (hr : Reach n f) (hn : 1 ≤ n) (hb : ∀ i, i < n → 0 ≤ sv f i ∧ sv f i < 18446744073709551616) (h0 : 0 ≤ fp) (h1 : fp < 1073741824) (o0 : 0 ≤ off) (o1 : off < 4294967296) :
    ∃ (t : Nat) (R : Int), Goes n (hm fp n) f (wantI fp off) t ∧ ((clr (sv f (pos n (hm fp n) t)) = wantI fp off ∧ R = pos n (hm fp n) t) ∨ (clr (sv f (pos n (hm fp n) t)) ≠ wantI fp off ∧ clr (sv f (pos n (hm fp n) t)) = 0 ∧ R = -1)) ∧ Ans n f (wantI fp off) R := by
  have hW := (want_bound fp off h0 h1 o0 o1).1
  have hh := (hm_spec fp n h0 h1 hn).2
  have nz : ∀ i, i < n → sv f i ≠ 0 → clr (sv f i) ≠ 0 := fun i hi h => clr_usd _ (hb i hi).1 (hb i hi).2 (hr.used i hi h)
  by_cases e : ∃ p, p < n ∧ clr (sv f p) = wantI fp off
  · obtain ⟨p, hp, hc⟩ := e
    have hne := sv_ne hW hc
    have hfp := fpo_of_clr _ fp off (hb p hp).1 (hb p hp).2 h0 h1 o0 o1 hc
    obtain ⟨q1, q2⟩ := pos_sd n (hm fp n) p hh hp
    refine ⟨sd n (hm fp n) p, p, ⟨q2, fun s hs => ?_⟩, Or.inl ⟨by rw [q1]; exact hc, by rw [q1]⟩, Or.inl ⟨p, hp, hc, rfl⟩⟩
    have hsp : ∀ i, i ≤ s → pos n (hm fp n) i ≠ p := fun i hi he => by
      have := pos_inj n (hm fp n) i (sd n (hm fp n) p) hh (by omega) q2 (he.trans q1.symm)
      omega
    have hr1 := hr.run p hp hne
    rw [hfp] at hr1
    have hl := pos_lt n (hm fp n) s hn
    exact ⟨fun hx => hsp s (Nat.le_refl _) (hr.uniq hW hl hp hx hc), nz _ hl (hr1 s hsp)⟩
  · have hno : ∀ p, p < n → clr (sv f p) ≠ wantI fp off := fun p hp hc => e ⟨p, hp, hc⟩
    obtain ⟨em, h2, h3⟩ := hr.empty
    obtain ⟨q1, q2⟩ := pos_sd n (hm fp n) em hh h2
    obtain ⟨t, t1, t2, t3⟩ := least (fun t => sv f (pos n (hm fp n) t) = 0) (sd n (hm fp n) em) (by rw [q1]; exact h3)
    have hl := fun s => pos_lt n (hm fp n) s hn
    refine ⟨t, -1, ⟨by omega, fun s hs => ⟨hno _ (hl s), nz _ (hl s) (t3 s hs)⟩⟩, Or.inr ⟨hno _ (hl t), by rw [t2, clr_zero], rfl⟩, Or.inr ⟨hno, rfl⟩⟩

/-- The linear search, k slots in. -/
def Lin (f : Nat → Int) (W : Int) (k : Nat) (E : Int) : Prop := Ans k f W E
theorem Lin.hit {f : Nat → Int} {W : Int} {k : Nat} (h : clr (sv f k) = W) : Lin f W (k + 1) k := Or.inl ⟨k, by omega, h, rfl⟩
theorem Lin.miss {f : Nat → Int} {W E : Int} {k : Nat} (hl : Lin f W k E) (h : clr (sv f k) ≠ W) : Lin f W (k + 1) E := by
  rcases hl with ⟨p, a1, a2, a3⟩ | ⟨a1, a2⟩
  · exact Or.inl ⟨p, by omega, a2, a3⟩
  · exact Or.inr ⟨fun p hp => by
      by_cases e : p = k
      · rw [e]; exact h
      · exact a1 p (by omega), a2⟩

theorem Cl.bs {w w0 : World} {g len b o : Nat} {f : Nat → Int} (h : Cl w g len f len) (hB : BS w0 b o f len) : BS w g 0 f len := fun i hi => by
  obtain ⟨ys, h1, h2, h3⟩ := h
  refine ⟨?_, (hB i hi).2⟩
  rw [← h2 i hi, Nat.zero_add]
  exact h3.cell i (by omega)
theorem Cl.lt {w : World} {g len k : Nat} {f : Nat → Int} (h : Cl w g len f k) : g < w.heap.size := by
  obtain ⟨ys, _, _, h3⟩ := h
  exact h3.lt

theorem bytes7_yes (a : Option Addr) (len cap : Nat) (fp off : Int) (w : World) (hl : (len : Int) ≤ 1048576) :
    Calls Try.prog 7 #[.slice a len cap, .int .u64 fp, .int .i64 off] w fun e w' => e = .returned (.bool true) ∧ w = w' := by
  have h := bytes7_any a len cap fp off w (by omega)
  rwa [decide_eq_true hl] at h
theorem bytes7_no (a : Option Addr) (len cap : Nat) (fp off : Int) (w : World) (hl : ¬ (len : Int) ≤ 1048576) (hm : (len : Int) ≤ 9223372036854775807) :
    Calls Try.prog 7 #[.slice a len cap, .int .u64 fp, .int .i64 off] w fun e w' => e = .returned (.bool false) ∧ w = w' := by
  have h := bytes7_any a len cap fp off w hm
  rwa [decide_eq_false hl] at h

set_option maxRecDepth 100000 in
set_option maxHeartbeats 1000000 in
/-- The inputs that the law lets by. -/
theorem lawA_skip (a : Option Addr) (len cap : Nat) (fp off : Int) (w : World) (hm : (len : Int) ≤ 9223372036854775807) (f0 : 0 ≤ fp) (f1 : fp < 18446744073709551616) (o1 : off < 9223372036854775808)
    (h : ¬ ((len : Int) ≤ 32768 ∧ len ≠ 0 ∧ (len : Int) % 8 = 0 ∧ fp ≤ 1073741823 ∧ 0 ≤ off ∧ off ≤ 4294967295)) :
    Calls Try.prog 3 #[.slice a len cap, .int .u64 fp, .int .i64 off] w fun e w' => e = .returned (.bool true) ∧ Below w.heap.size w w' := by
  by_cases g1 : (len : Int) ≤ 1048576
  · by_cases g2 : (32768 : Int) < (len : Int)
    · clear h
      go_enter Try.func3, Try.ntmps3
      go_wp2_with (go_at_call 7; refine (bytes7_yes a len cap fp off _ g1).mono ?_; rintro e w' ⟨rfl, rfl⟩)
      go_ret
      exact ⟨rfl, Below.refl _ _⟩
    · by_cases g3 : len = 0
      · subst g3
        clear h
        go_enter Try.func3, Try.ntmps3
        go_wp2_with (go_at_call 7; refine (bytes7_yes a 0 cap fp off _ g1).mono ?_; rintro e w' ⟨rfl, rfl⟩)
        go_ret
        exact ⟨rfl, Below.refl _ _⟩
      · have g3b : ((len : Int) == 0) = false := by simp; omega
        by_cases g4 : (len : Int) % 8 = 0
        · have g4b : ((len : Int) % 8 != 0) = false := by simp; omega
          by_cases g5 : (1073741823 : Int) < fp
          · clear h
            go_enter Try.func3, Try.ntmps3
            go_wp2_with (go_at_call 7; refine (bytes7_yes a len cap fp off _ g1).mono ?_; rintro e w' ⟨rfl, rfl⟩)
            go_ret
            exact ⟨rfl, Below.refl _ _⟩
          · by_cases g6 : 0 ≤ off
            · have g7 : 4294967295 < off := by
                by_cases g7 : 4294967295 < off
                · exact g7
                · exact absurd ⟨by omega, g3, g4, by omega, g6, by omega⟩ h
              clear h
              go_enter Try.func3, Try.ntmps3
              go_wp2_with (first | (go_at_call 7; refine (bytes7_yes a len cap fp off _ g1).mono ?_; rintro e w' ⟨rfl, rfl⟩) | (go_at_call 8; refine (offok_big off _ g6 o1 g7).mono ?_; rintro e w' ⟨rfl, rfl⟩))
              go_ret
              exact ⟨rfl, Below.refl _ _⟩
            · clear h
              go_enter Try.func3, Try.ntmps3
              go_wp2_with (first | (go_at_call 7; refine (bytes7_yes a len cap fp off _ g1).mono ?_; rintro e w' ⟨rfl, rfl⟩) | (go_at_call 8; refine (offok_neg off _ (by omega)).mono ?_; rintro e w' ⟨rfl, rfl⟩))
              go_ret
              exact ⟨rfl, Below.refl _ _⟩
        · have g4b : ((len : Int) % 8 != 0) = true := by simp; omega
          clear h
          go_enter Try.func3, Try.ntmps3
          go_wp2_with (go_at_call 7; refine (bytes7_yes a len cap fp off _ g1).mono ?_; rintro e w' ⟨rfl, rfl⟩)
          go_ret
          exact ⟨rfl, Below.refl _ _⟩
  · clear h
    go_enter Try.func3, Try.ntmps3
    go_wp2_with (go_at_call 7; refine (bytes7_no a len cap fp off _ g1 hm).mono ?_; rintro e w' ⟨rfl, rfl⟩)
    go_ret
    exact ⟨rfl, Below.refl _ _⟩

set_option maxRecDepth 100000 in
set_option maxHeartbeats 4000000 in
theorem lawA_main (b o len cap n : Nat) (f : Nat → Int) (fp off : Int) (w : World) (hB : BS w b o f len) (hb : b < w.heap.size) (hl : len = 8 * n) (hn1 : 1 ≤ n) (hn2 : (n : Int) ≤ 4096) (f0 : 0 ≤ fp) (f1 : fp < 1073741824) (o0 : 0 ≤ off) (o1 : off < 4294967296) :
    Calls Try.prog 3 #[.slice (some ⟨b, o, none⟩) len cap, .int .u64 fp, .int .i64 off] w fun e w' => e = .returned (.bool true) ∧ Below w.heap.size w w' := by
  have HB : Hid (BS w b o f len) := hB
  have HL : Hid (len = 8 * n) := hl
  have HV : Hid (∀ i, i < n → 0 ≤ sv f i ∧ sv f i < 18446744073709551616) := fun i hi => hB.svb i (by omega)
  obtain ⟨W, hW⟩ : ∃ W, W = wantI fp off := ⟨_, rfl⟩
  have HW : Hid (W = wantI fp off) := hW
  have HW0 : Hid (0 < W) := hW ▸ (want_bound fp off f0 f1 o0 o1).1
  have g1 : (len : Int) ≤ 1048576 := by omega
  have g2 : (len : Int) ≤ 32768 := by omega
  have g3 : ((len : Int) == 0) = false := by simp; omega
  have g4 : ((len : Int) % 8 != 0) = false := by simp; omega
  have g5 : fp ≤ 1073741823 := by omega
  have g6 : off ≤ 4294967295 := by omega
  have hd : (len : Int).tdiv 8 = (n : Int) := by rw [Int.tdiv_eq_ediv_of_nonneg (by omega)]; omega
  clear hB hl hW
  go_enter Try.func3, Try.ntmps3
  go_wp2_with (first
    | (go_at_call 7; refine (bytes7_yes _ len cap fp off _ g1).mono ?_; rintro e w' ⟨rfl, rfl⟩)
    | (go_at_call 8; refine (offok_yes off _ o0 o1 g6).mono ?_; rintro e w' ⟨rfl, rfl⟩)
    | (go_at_call 9; refine (reach_any b o len cap n f _ HB.out HL.out hn1 hn2).mono ?_; rintro e w' ⟨⟨r, rfl, hr⟩, rfl⟩; have HR : Hid (r = true → Reach n f) := hr; clear hr)
    | (go_at_call 10; refine (want_any fp off _ f0 f1 o0 o1).mono ?_; rw [← HW.out]; rintro e w' ⟨rfl, rfl⟩))
  · go_ret
    exact ⟨rfl, Below.refl _ _⟩
  · rename (!r) = false => hq
    have e : r = true := by cases r with
      | false => exact absurd hq (by decide)
      | true => rfl
    subst e
    have HRR : Hid (Reach n f) := HR.out rfl
    clear hq HR
    go_loop [9, 10] (fun E p => ∃ (k : Nat) (x : Int), k ≤ n ∧ E = .int .i64 x ∧ p = .int .i64 k ∧ Hid (Lin f W k x)) (fun _ p => n - (intOf p).toNat)
    case atStart => exact ⟨0, -1, Nat.zero_le _, rfl, rfl, Or.inr ⟨fun p hp => (by omega), rfl⟩⟩
    case round =>
      obtain ⟨k, x, hk, rfl, rfl, HX⟩ := hrel
      by_cases hlt : k < n
      · obtain ⟨v, hv⟩ : ∃ v, v = sv f k := ⟨_, rfl⟩
        have HVk : Hid (v = sv f k) := hv
        clear hv
        by_cases hc : clr v = W
        · have hcb : (bits .andNot .u64 v 4611686018427387904 == W) = true := by simpa [clr] using hc
          have HC : Hid (clr v = W) := hc
          clear hc
          go_wp2_with (go_at_call 11; refine (slot_val b o len cap k f v _ HB.out (by have := HL.out; omega) g1 HVk.out).mono ?_; rintro e w' ⟨rfl, rfl⟩)
          go_round
          case rel => exact ⟨k + 1, k, by omega, by go_num, by go_num, Lin.hit (HVk.out ▸ HC.out)⟩
          case measure => simp [intOf]; omega
        · have hcb : (bits .andNot .u64 v 4611686018427387904 == W) = false := by simpa [clr] using hc
          have HC : Hid (clr v ≠ W) := hc
          clear hc
          go_wp2_with (go_at_call 11; refine (slot_val b o len cap k f v _ HB.out (by have := HL.out; omega) g1 HVk.out).mono ?_; rintro e w' ⟨rfl, rfl⟩)
          go_round
          case rel => exact ⟨k + 1, x, by omega, by go_num, by go_num, HX.out.miss (HVk.out ▸ HC.out)⟩
          case measure => simp [intOf]; omega
      · have ek : k = n := by omega
        subst ek
        obtain ⟨t, R, hG, hR, hA⟩ := road k f fp off HRR.out hn1 HV.out f0 f1 o0 o1
        have HG : Hid (Goes k (hm fp k) f (wantI fp off) t) := hG
        have HRd : Hid (_ ∨ _) := hR
        have HE : Hid (R = x) := hA.uniq HRR.out (HW.out ▸ HW0.out) (HW.out ▸ HX.out)
        clear hG hR hA
        go_wp2_with (first
          | (go_at_call 13; refine (clone_any b o len cap f _ HB.out hb g1).mono ?_; rintro e w1 ⟨rfl, hC1, hB1⟩; have HC1 : Hid (Cl w1 w.heap.size len f len) := hC1; have HB1 : Hid (Below w.heap.size w w1) := hB1; have HS1 : Hid (w.heap.size < w1.heap.size) := hC1.lt; clear hC1 hB1)
          | (go_at_call 14; refine (used_any b o len cap k f _ (HB.out.below HB1.out hb) HL.out hn2).mono ?_; rintro e w' ⟨⟨c, hc, rfl⟩, rfl⟩)
          | (go_at_call 12; refine (new_any _ len len c _).mono ?_; rintro e w2 ⟨rfl, hS2, hB2⟩; have HS2 : Hid (Sh w2 w1.heap.size (.slice (some ⟨w.heap.size, 0, none⟩) len len) c) := hS2; have HBS2 : Hid (BS w2 w.heap.size 0 f len) := (HC1.out.bs HB.out).below hB2 HS1.out; have HB2 : Hid (Below w.heap.size w w2) := HB1.out.trans (hB2.mono HB1.out.size); have HZ2 : Hid (w.heap.size < w2.heap.size) := Nat.lt_of_lt_of_le HS1.out hB2.size; clear hS2 hB2)
          | (go_at_call 15; refine (zzslotOf_any w1.heap.size w.heap.size 0 len len k t f fp off c R _ HS2.out HBS2.out HZ2.out HL.out (Nat.le_refl _) f0 f1 o0 o1 hn1 hn2 HG.out HRd.out).mono ?_; rintro e w3 ⟨rfl, hB3⟩; have HB3 : Hid (Below w.heap.size w w3) := HB2.out.trans (hB3.mono HB2.out.size); clear hB3))
        go_ret
        refine ⟨?_, HB3.out⟩
        rw [HE.out, show (x == x) = true by simp]
        rfl
end Go.Proofs.Qxb6616288a
