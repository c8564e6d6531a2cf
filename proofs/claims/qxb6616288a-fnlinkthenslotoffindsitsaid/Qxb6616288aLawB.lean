import Derived.Test.Qxb6616288aFst
namespace Go.Proofs.Qxb6616288a
open Go.RowKit

theorem bytes16_yes (a : Option Addr) (len cap : Nat) (cnt fp off : Int) (w : World) (hl : (len : Int) ≤ 1048576) :
    Calls Try.prog 16 #[.slice a len cap, .int .i64 cnt, .int .u64 fp, .int .i64 off] w fun e w' => e = .returned (.bool true) ∧ w = w' := by
  have h := bytes16_any a len cap cnt fp off w (by omega)
  rwa [decide_eq_true hl] at h
theorem bytes16_no (a : Option Addr) (len cap : Nat) (cnt fp off : Int) (w : World) (hl : ¬ (len : Int) ≤ 1048576) (hm : (len : Int) ≤ 9223372036854775807) :
    Calls Try.prog 16 #[.slice a len cap, .int .i64 cnt, .int .u64 fp, .int .i64 off] w fun e w' => e = .returned (.bool false) ∧ w = w' := by
  have h := bytes16_any a len cap cnt fp off w hm
  rwa [decide_eq_false hl] at h

set_option maxRecDepth 100000 in
set_option maxHeartbeats 1000000 in
/-- The inputs that the law lets by. -/
theorem lawB_skip (a : Option Addr) (len cap : Nat) (cnt fp off : Int) (w : World) (hm : (len : Int) ≤ 9223372036854775807) (f0 : 0 ≤ fp) (f1 : fp < 18446744073709551616) (o1 : off < 9223372036854775808)
    (h : ¬ ((len : Int) ≤ 32768 ∧ len ≠ 0 ∧ (len : Int) % 8 = 0 ∧ fp ≤ 1073741823 ∧ 0 ≤ off ∧ off ≤ 4294967295)) :
    Calls Try.prog 4 #[.slice a len cap, .int .i64 cnt, .int .u64 fp, .int .i64 off] w fun e w' => e = .returned (.bool true) ∧ Below w.heap.size w w' := by
  by_cases g1 : (len : Int) ≤ 1048576
  · by_cases g2 : (32768 : Int) < (len : Int)
    · clear h
      go_enter Try.func4, Try.ntmps4
      go_wp2_with (go_at_call 16; refine (bytes16_yes a len cap cnt fp off _ g1).mono ?_; rintro e w' ⟨rfl, rfl⟩)
      go_ret
      exact ⟨rfl, Below.refl _ _⟩
    · by_cases g3 : len = 0
      · subst g3
        clear h
        go_enter Try.func4, Try.ntmps4
        go_wp2_with (go_at_call 16; refine (bytes16_yes a 0 cap cnt fp off _ g1).mono ?_; rintro e w' ⟨rfl, rfl⟩)
        go_ret
        exact ⟨rfl, Below.refl _ _⟩
      · have g3b : ((len : Int) == 0) = false := by simp; omega
        by_cases g4 : (len : Int) % 8 = 0
        · have g4b : ((len : Int) % 8 != 0) = false := by simp; omega
          by_cases g5 : (1073741823 : Int) < fp
          · clear h
            go_enter Try.func4, Try.ntmps4
            go_wp2_with (go_at_call 16; refine (bytes16_yes a len cap cnt fp off _ g1).mono ?_; rintro e w' ⟨rfl, rfl⟩)
            go_ret
            exact ⟨rfl, Below.refl _ _⟩
          · by_cases g6 : 0 ≤ off
            · have g7 : 4294967295 < off := by
                by_cases g7 : 4294967295 < off
                · exact g7
                · exact absurd ⟨by omega, g3, g4, by omega, g6, by omega⟩ h
              clear h
              go_enter Try.func4, Try.ntmps4
              go_wp2_with (first | (go_at_call 16; refine (bytes16_yes a len cap cnt fp off _ g1).mono ?_; rintro e w' ⟨rfl, rfl⟩) | (go_at_call 8; refine (offok_big off _ g6 o1 g7).mono ?_; rintro e w' ⟨rfl, rfl⟩))
              go_ret
              exact ⟨rfl, Below.refl _ _⟩
            · clear h
              go_enter Try.func4, Try.ntmps4
              go_wp2_with (first | (go_at_call 16; refine (bytes16_yes a len cap cnt fp off _ g1).mono ?_; rintro e w' ⟨rfl, rfl⟩) | (go_at_call 8; refine (offok_neg off _ (by omega)).mono ?_; rintro e w' ⟨rfl, rfl⟩))
              go_ret
              exact ⟨rfl, Below.refl _ _⟩
        · have g4b : ((len : Int) % 8 != 0) = true := by simp; omega
          clear h
          go_enter Try.func4, Try.ntmps4
          go_wp2_with (go_at_call 16; refine (bytes16_yes a len cap cnt fp off _ g1).mono ?_; rintro e w' ⟨rfl, rfl⟩)
          go_ret
          exact ⟨rfl, Below.refl _ _⟩
  · clear h
    go_enter Try.func4, Try.ntmps4
    go_wp2_with (go_at_call 16; refine (bytes16_no a len cap cnt fp off _ g1 hm).mono ?_; rintro e w' ⟨rfl, rfl⟩)
    go_ret
    exact ⟨rfl, Below.refl _ _⟩


theorem goes_link (n h i : Nat) (f f2 : Nat → Int) (W : Int) (hr : Reach n f) (hn : 1 ≤ n) (hh : h < n) (hb : ∀ i, i < n → 0 ≤ sv f i ∧ sv f i < 18446744073709551616) (hno : ∀ k, k < n → clr (sv f k) ≠ W) (hF : First n h f i) (hs : ∀ k, k < n → k ≠ i → sv f2 k = sv f k) :
    ∃ s, i = pos n h s ∧ Goes n h f2 W s := by
  obtain ⟨s, s1, s2, s3, s4⟩ := hF
  refine ⟨s, s2, s1, fun t ht => ?_⟩
  have hl := pos_lt n h t hn
  have hne : pos n h t ≠ i := fun e => by
    have := pos_inj n h t s hh (by omega) s1 (e.trans s2)
    omega
  rw [hs _ hl hne]
  exact ⟨hno _ hl, clr_usd _ (hb _ hl).1 (hb _ hl).2 (hr.used _ hl (s4 t ht))⟩

set_option maxRecDepth 100000 in
set_option maxHeartbeats 4000000 in
theorem lawB_main (b o len cap n : Nat) (f : Nat → Int) (cnt fp off : Int) (w : World) (hB : BS w b o f len) (hb : b < w.heap.size) (hl : len = 8 * n) (hn1 : 1 ≤ n) (hn2 : (n : Int) ≤ 4096) (f0 : 0 ≤ fp) (f1 : fp < 1073741824) (o0 : 0 ≤ off) (o1 : off < 4294967296) :
    Calls Try.prog 4 #[.slice (some ⟨b, o, none⟩) len cap, .int .i64 cnt, .int .u64 fp, .int .i64 off] w fun e w' => e = .returned (.bool true) ∧ Below w.heap.size w w' := by
  have HB : Hid (BS w b o f len) := hB
  have HL : Hid (len = 8 * n) := hl
  have HV : Hid (∀ i, i < n → 0 ≤ sv f i ∧ sv f i < 18446744073709551616) := fun i hi => hB.svb i (by omega)
  obtain ⟨W, hW⟩ : ∃ W, W = wantI fp off := ⟨_, rfl⟩
  have HW : Hid (W = wantI fp off) := hW
  have HWB : Hid (0 < W ∧ W < 18446744073709551616) := hW ▸ want_bound fp off f0 f1 o0 o1
  have HWC : Hid (clr W = W) := hW ▸ clr_want fp off f0 f1 o0 o1
  have t1 : (bits .and .u64 W 9223372036854775808 == 0) = false := by
    have h := want_usd fp off f0 f1 o0 o1
    rw [← hW] at h
    simpa [usd] using h
  have t2 : bits .and .u64 W 4611686018427387904 = 0 := hW ▸ want_mark' fp off f0 f1 o0 o1
  have t3 : bits .and .u64 (W / 4294967296) 1073741823 = fp := by
    have h := fpo_of_clr W fp off (by have := HWB.out; omega) HWB.out.2 f0 f1 o0 o1 (by rw [HWC.out, hW])
    exact h
  have t4 : bits .and .u64 W 4294967295 = off := hW ▸ want_off fp off f0 f1 o0 o1
  have g1 : (len : Int) ≤ 1048576 := by omega
  have g2 : (len : Int) ≤ 32768 := by omega
  have g3 : ((len : Int) == 0) = false := by simp; omega
  have g4 : ((len : Int) % 8 != 0) = false := by simp; omega
  have g5 : fp ≤ 1073741823 := by omega
  have g6 : off ≤ 4294967295 := by omega
  have hd : (len : Int).tdiv 8 = (n : Int) := by rw [Int.tdiv_eq_ediv_of_nonneg (by omega)]; omega
  clear hB hl hW
  go_enter Try.func4, Try.ntmps4
  go_wp2_with (first
    | (go_at_call 16; refine (bytes16_yes _ len cap cnt fp off _ g1).mono ?_; rintro e w' ⟨rfl, rfl⟩)
    | (go_at_call 8; refine (offok_yes off _ o0 o1 g6).mono ?_; rintro e w' ⟨rfl, rfl⟩))
  refine (reach_any b o len cap n f _ HB.out HL.out hn1 hn2).mono ?_
  rintro e w' ⟨⟨r, rfl, hr⟩, rfl⟩
  have HR : Hid (r = true → Reach n f) := hr
  clear hr
  cases r with
  | false =>
    go_wp2
    go_ret
    exact ⟨rfl, Below.refl _ _⟩
  | true =>
    have HRR : Hid (Reach n f) := HR.out rfl
    clear HR
    go_wp2_with fail
    refine (used_any b o len cap n f _ HB.out HL.out hn2).mono ?_
    rintro e w' ⟨⟨c, hc, rfl⟩, rfl⟩
    by_cases hcc : cnt = (c : Int)
    · subst hcc
      by_cases hge : (n : Int) ≤ (c : Int) + 1
      · go_wp2
        go_ret
        exact ⟨rfl, Below.refl _ _⟩
      · go_wp2_with (go_at_call 10; refine (want_any fp off _ f0 f1 o0 o1).mono ?_; rw [← HW.out]; rintro e w' ⟨rfl, rfl⟩)
        refine (holds_any b o len cap n f W _ HB.out HL.out hn2).mono ?_
        rintro e w' ⟨⟨r, rfl, hr⟩, rfl⟩
        have HNo : Hid (r = false → ∀ k, k < n → clr (sv f k) ≠ W) := hr
        clear hr
        cases r with
        | true =>
          go_wp2
          go_ret
          exact ⟨rfl, Below.refl _ _⟩
        | false =>
          have HN2 : Hid (∀ k, k < n → clr (sv f k) ≠ W) := HNo.out rfl
          clear HNo
          go_wp2_with fail
          refine (first_any b o len cap n f fp _ HB.out HL.out hn1 hn2 f0 f1 HRR.out.empty).mono ?_
          rintro e w' ⟨⟨i, hF, rfl⟩, rfl⟩
          have HF : Hid (First n (hm fp n) f i) := hF
          have hin : i < n := by obtain ⟨s, _, e, _⟩ := hF; rw [e]; exact pos_lt _ _ _ hn1
          clear hF
          go_wp2_with fail
          refine (clone_any b o len cap f _ HB.out hb g1).mono ?_
          rintro e w1 ⟨rfl, hC1, hB1⟩
          have HB1 : Hid (Below w.heap.size w w1) := hB1
          have HS1 : Hid (w.heap.size < w1.heap.size) := hC1.lt
          obtain ⟨ys, y1, y2, y3⟩ := hC1
          have HR1 : Hid (Row w1 w.heap.size ys) := y3
          have HY : Hid (ys.length = len ∧ ∀ j, j < len → ys.getD j 0 = f j) := ⟨y1, y2⟩
          clear hB1 y1 y2 y3
          go_wp2_with fail
          refine (new_any _ len len c _).mono ?_
          rintro e w2 ⟨rfl, hS2, hB2⟩
          have HS2 : Hid (Sh w2 w1.heap.size (.slice (some ⟨w.heap.size, 0, none⟩) len len) c) := hS2
          have HR2 : Hid (Row w2 w.heap.size ys) := HR1.out.below hB2 HS1.out
          have HB2 : Hid (Below w.heap.size w w2) := HB1.out.trans (hB2.mono HB1.out.size)
          clear hS2 hB2
          go_wp2_with fail
          refine (zzlink_any w.heap.size w1.heap.size w.heap.size len i ys fp off c _ HS2.out HR2.out HY.out.1 (by have := HL.out; omega) g1 (by have := HS1.out; omega) (Nat.le_refl _) (Nat.le_of_lt HS1.out) f0 f1 o0 o1 (by omega) (by omega)).mono ?_
          rintro e w3 ⟨rfl, hR3, hS3, hB3⟩
          rw [← HW.out] at hR3
          obtain ⟨f2, hf2⟩ : ∃ f2 : Nat → Int, f2 = fun j => (put8 ys (8 * i) W).getD j 0 := ⟨_, rfl⟩
          have HLY : Hid (8 * i + 8 ≤ ys.length) := by
            show 8 * i + 8 ≤ ys.length
            have q1 := HY.out.1
            have q2 := HL.out
            omega
          have HSv : Hid (sv f2 i = W) := by
            rw [hf2]; exact sv_put ys i W HLY.out (Int.le_of_lt HWB.out.1) HWB.out.2
          have HSo : Hid (∀ k, k < n → k ≠ i → sv f2 k = sv f k) := fun k hk hne => by
            rw [hf2]; exact sv_other ys f i k n W (HY.out.1.trans HL.out) (fun j hj => HY.out.2 j (by rw [HL.out]; exact hj)) hin hk hne
          have HBS : Hid (BS w3 w.heap.size 0 f2 len) := fun j hj => by
            refine ⟨?_, ?_⟩
            · rw [hf2, Nat.zero_add]
              exact hR3.cell j (by rw [put8_len, HY.out.1]; exact hj)
            · rw [hf2]
              show 0 ≤ (put8 ys (8 * i) W).getD j 0 ∧ (put8 ys (8 * i) W).getD j 0 < 256
              by_cases q : 8 * i ≤ j ∧ j < 8 * i + 8
              · exact put8_in ys (8 * i) j W HLY.out q
              · rw [put8_out ys (8 * i) j W HLY.out (by omega), HY.out.2 j hj]
                exact (HB.out j hj).2
          have HR3 : Hid (Row w3 w.heap.size (put8 ys (8 * i) W)) := hR3
          have HS3 : Hid (Sh w3 w1.heap.size (.slice (some ⟨w.heap.size, 0, none⟩) len len) (c + 1)) := hS3
          have HB3 : Hid (Below w.heap.size w w3) := HB2.out.trans hB3
          clear hR3 hS3 hB3 hf2
          obtain ⟨s, hs, hG⟩ := goes_link n (hm fp n) i f f2 W HRR.out hn1 (hm_spec fp n f0 f1 hn1).2 HV.out HN2.out HF.out HSo.out
          have HG : Hid (Goes n (hm fp n) f2 (wantI fp off) s) := HW.out ▸ hG
          have HI : Hid (i = pos n (hm fp n) s) := hs
          clear hs hG
          go_wp2_with fail
          refine (count_any w1.heap.size _ _ _ HS3.out).mono ?_
          rintro e w' ⟨rfl, rfl⟩
          go_wp2_with fail
          refine (zzslotOf_any w1.heap.size w.heap.size 0 len len n s f2 fp off (c + 1) i _ HS3.out HBS.out HR3.out.lt HL.out (Nat.le_refl _) f0 f1 o0 o1 hn1 hn2 HG.out (Or.inl ⟨by rw [← HI.out, HSv.out, HWC.out, HW.out], by rw [← HI.out]⟩)).mono ?_
          rintro e w4 ⟨rfl, hB4⟩
          have HB4 : Hid (Below w.heap.size w w4) := HB3.out.trans (hB4.mono HB3.out.size)
          have HBS4 : Hid (BS w4 w.heap.size 0 f2 len) := HBS.out.below hB4 HR3.out.lt
          have HS4 : Hid (Sh w4 w1.heap.size (.slice (some ⟨w.heap.size, 0, none⟩) len len) (c + 1)) := HS3.out.below hB4 HS3.out.lt
          have HBT : Hid (BS w4 b o f len) := HB.out.below HB4.out hb
          clear hB4
          go_wp2_with fail
          refine (table_any w1.heap.size _ len len _ _ HS4.out).mono ?_
          rintro e w' ⟨rfl, rfl⟩
          go_wp2
          go_loop [13] (fun p => ∃ k : Nat, k ≤ n ∧ p = .int .i64 k) (fun p => n - (intOf p).toNat)
          case atStart => exact ⟨0, Nat.zero_le _, rfl⟩
          case round =>
            obtain ⟨k, hk, rfl⟩ := hrel
            by_cases hlt : k < n
            · by_cases hki : k = i
              · subst hki
                go_wp2_with (go_at_call 11; refine (slot_val w.heap.size 0 len len k f2 W _ HBS4.out (by have := HL.out; omega) g1 HSv.out.symm).mono ?_; rintro e w' ⟨rfl, rfl⟩)
                go_round
                case rel => exact ⟨k + 1, by omega, by go_num⟩
                case measure => simp [intOf]; omega
              · have hkb : ((k : Int) == (i : Int)) = false := by simp; omega
                obtain ⟨u, hu⟩ : ∃ u, u = sv f k := ⟨_, rfl⟩
                have HU : Hid (u = sv f k) := hu
                have HU2 : Hid (u = sv f2 k) := hu.trans (HSo.out k hlt hki).symm
                clear hu
                go_wp2_with fail
                refine (slot_val w.heap.size 0 len len k f2 u _ HBS4.out (by have := HL.out; omega) g1 HU2.out).mono ?_
                rintro e w' ⟨rfl, rfl⟩
                go_wp2_with fail
                refine (slot_val b o len cap k f u _ HBT.out (by have := HL.out; omega) g1 HU.out).mono ?_
                rintro e w' ⟨rfl, rfl⟩
                go_wp2
                go_round
                case rel => exact ⟨k + 1, by omega, by go_num⟩
                case measure => simp [intOf]; omega
            · go_wp2
              go_ret
              exact ⟨rfl, HB4.out⟩
    · have hcb : (cnt == (c : Int)) = false := by simpa using hcc
      have hcb2 : (cnt != (c : Int)) = true := by simpa using hcc
      clear hcc
      go_wp2
      go_ret
      exact ⟨rfl, Below.refl _ _⟩
end Go.Proofs.Qxb6616288a
