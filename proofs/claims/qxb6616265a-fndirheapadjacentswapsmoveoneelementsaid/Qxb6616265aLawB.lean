import Derived.Test.Qxb6616265aMov
import Derived.Deep.QuietTactic
import Derived.BigQuiet
namespace Go.Proofs.Qxb6616265a
open Go.RowKit

set_option maxRecDepth 100000 in
set_option maxHeartbeats 4000000 in
theorem lawB_any (b off len cap : Nat) (xs : List ByteArray) (i j : Int) (w : World) (hn : xs.length = len) (hreach : len * 16 ≤ 140737488351232) (hb : b < w.heap.size) (hA : Arg w b off xs) :
    Calls Try.prog 4 #[.slice (some ⟨b, off, none⟩) len cap, .int .i64 i, .int .i64 j] w fun e w' => e = .returned (.bool true) ∧ Below w.heap.size w w' := by
  obtain ⟨i0, hi0, hz0, hz1, hz2⟩ := info_parts info9
  have HA : Hid (Arg w b off xs) := hA
  have HN : Hid (xs.length = len) := hn
  have HZ : Hid (i0.bytes = 16) := hz2
  clear hA hn hz2
  go_enter Try.func4, Try.ntmps4
  go_wp2_with (go_at_call 10; refine (zzBytes10 b off len cap xs _ _ _ HN.out hreach HA.out).mono ?_; rintro e w' ⟨⟨r, rfl⟩, rfl⟩)
  · go_ret
    exact ⟨rfl, Below.refl _ _⟩
  go_loop [7, 8] (fun t i => ∃ (k : Nat) (T : Int), k ≤ len ∧ i = .int .i64 k ∧ t = .int .i64 T ∧ 0 ≤ T ∧ T ≤ 1048576) (fun _ i => len - (intOf i).toNat)
  case atStart => exact ⟨0, 0, Nat.zero_le _, rfl, rfl, by omega, by omega⟩
  case round =>
    obtain ⟨k, T, hk, rfl, rfl, hT0, hT⟩ := hrel
    by_cases hlt : k < len
    · have hc := HA.out k (by rw [HN.out]; exact hlt)
      obtain ⟨s, hs⟩ : ∃ s, s = xs.getD k ByteArray.empty := ⟨_, rfl⟩
      rw [← hs] at hc
      clear hs
      go_wp2
      · go_ret
        exact ⟨rfl, Below.refl _ _⟩
      · go_ret
        exact ⟨rfl, Below.refl _ _⟩
      · go_round
        case rel => exact ⟨k + 1, T + (s.size + 16), by omega, by go_num, by go_num, by omega, by omega⟩
        case measure => simp [intOf]; omega
    · by_cases hin : 0 ≤ i ∧ i < len ∧ 0 ≤ j ∧ j < len
      · obtain ⟨hi1, hi2, hj1, hj2⟩ := hin
        obtain ⟨x, rfl⟩ : ∃ x : Nat, i = x := ⟨i.toNat, by omega⟩
        obtain ⟨y, rfl⟩ : ∃ y : Nat, j = y := ⟨j.toNat, by omega⟩
        have hx0 : decide ((x : Int) < 0) = false := decide_eq_false (by omega)
        have hy0 : decide ((y : Int) < 0) = false := decide_eq_false (by omega)
        by_cases hxy : x < y
        · have hyx : decide (x < y) = true := decide_eq_true (by omega)
          go_wp2_with (at_make; refine wpList_make_full _ rfl (.tmp 62) (.tmp 62) 22 rfl w.heap.size 9 i0 (.string ⟨#[]⟩) 1 Try.underlying22 hi0 hz0 hz1 .i64 .i64 _ _ len rfl rfl (by omega) (by omega) (by rw [HZ.out]; omega) (by unfold maxLen; omega) (Nat.le_refl _) ?_; intro w1 hown hgrow; obtain ⟨w2, hcp, hrow2, hbel2, hsz2⟩ := B.copy_step w1 w.heap.size b off len cap xs _ HN.out (row_of_owns hown) (by simpa using hown.1) (B.arg_below HA.out ((Below.refl _ _).grown hgrow (Nat.le_refl _) (fun k h => by cases h)) hb); have HR2 : Hid (Row w2 w.heap.size xs) := hrow2; have HB2 : Hid (Below w.heap.size w w2) := ((Below.refl _ _).grown hgrow (Nat.le_refl _) (fun k h => by cases h)).trans hbel2; clear hown hgrow hrow2 hbel2 hsz2)
          go_loopw [10] (fun a wr => ∃ (t : Nat) (ys : List ByteArray), x ≤ t ∧ t ≤ y ∧ a = .int .i64 t ∧ Hid (Mv xs x t ys) ∧ Hid (Row wr w.heap.size ys) ∧ Hid (Below w.heap.size w wr))
            (fun a _ => (y - (intOf a).toNat))
          case atStart => exact ⟨x, _, Nat.le_refl _, by omega, rfl, mv_start xs x, HR2, HB2⟩
          case round =>
            obtain ⟨t, ys, ht1, ht2, rfl, HV, HRr, HBr⟩ := hrel
            have hyl : ys.length = len := HV.out.1.trans HN.out
            have HY : Hid (ys.length = len) := hyl
            clear hyl
            by_cases hab : t < y
            · go_wp2_with (go_at_call 9; refine (zzswap_int w.heap.size len len ys _ _ t (t + 1) _ (by omega) (by omega) HY.out (by omega) (by omega) HRr.out).mono ?_; rintro e w4 ⟨rfl, h1, h2, h3⟩; have HR4 : Hid (Row w4 w.heap.size (swp ys t (t + 1))) := h1; have HB4 : Hid (Below w.heap.size w w4) := HBr.out.trans h2; clear h1 h2 h3)
              go_roundw
              case rel => exact ⟨t + 1, _, by omega, by omega, by go_num, mv_up xs ys x t HV.out (by rw [HN.out]; omega) ht1, HR4, HB4⟩
              case measure => simp [intOf]; omega
            · have hty : t = y := by omega
              subst hty
              rename World => wo
              have hBw : w.heap.size < wo.heap.size := HRr.out.lt
              have hbr : b < wo.heap.size := by omega
              go_wp2_with (at_make; refine wpList_make_own _ rfl _ _ 22 rfl wo.heap.size 9 i0 (.string ⟨#[]⟩) 1 Try.underlying22 hi0 hz0 hz1 _ _ _ len rfl rfl (by omega) (by rw [HZ.out]; omega) (by unfold maxLen; omega) (Nat.le_refl _) ?_; intro w5 hown5 hgrow5; have HO5 : Hid (w5.ownsRow wo.heap.size 9 1 (.slice (some ⟨wo.heap.size, 0, none⟩) 0 len) 0 []) := hown5; have HB5 : Hid (Below wo.heap.size wo w5) := (Below.refl _ _).grown hgrow5 (Nat.le_refl _) (fun k h => by cases h); clear hown5 hgrow5)
              go_loopw [12, 13] (fun v c wq => ∃ (m n : Nat), m ≤ len ∧ c = .int .i64 m ∧ v = .slice (some ⟨wo.heap.size, 0, none⟩) n len ∧ Hid (n = (rst xs x m).length) ∧ Hid (wq.ownsRow wo.heap.size 9 1 (.slice (some ⟨wo.heap.size, 0, none⟩) n len) n (strv (rst xs x m))) ∧ Hid (Below wo.heap.size wo wq))
                (fun _ c _ => len - (intOf c).toNat)
              case atStart => exact ⟨0, 0, Nat.zero_le _, rfl, rfl, by rw [rst_zero]; rfl, by rw [rst_zero]; exact HO5, HB5⟩
              case round =>
                rename World => wq
                obtain ⟨m, n, hm, rfl, rfl, HNn, HOq, HBq⟩ := hrel
                have hnm : n ≤ m := by rw [HNn.out]; exact rst_le xs x m (by rw [HN.out]; exact hm)
                by_cases hml : m < len
                · by_cases hmx : m = x
                  · have HX : Hid (m = x) := hmx
                    have hmx' : ((m : Int) != (x : Int)) = false := by simp [hmx]
                    have hRm : Hid (rst xs x (m + 1) = rst xs x m) := by rw [hmx]; exact rst_hit xs x (by rw [HN.out]; omega)
                    clear hmx
                    go_wp2
                    go_roundw
                    case rel => exact ⟨m + 1, n, by omega, by go_num, rfl, by rw [hRm.out]; exact HNn, by rw [hRm.out]; exact HOq, HBq⟩
                    case measure => simp [intOf]; omega
                  · have HX : Hid (m ≠ x) := hmx
                    have hmx' : ((m : Int) != (x : Int)) = true := by simp; omega
                    have hRm : Hid (rst xs x (m + 1) = rst xs x m ++ [xs.getD m ByteArray.empty]) := rst_miss xs x m (by rw [HN.out]; exact hml) hmx
                    clear hmx
                    have hc := B.arg_below (B.arg_below HA.out HBr.out hb) HBq.out hbr m (by rw [HN.out]; exact hml)
                    obtain ⟨s, hs⟩ : ∃ s, s = xs.getD m ByteArray.empty := ⟨_, rfl⟩
                    rw [← hs] at hc hRm
                    clear hs
                    go_wp2_with (at_builtin; refine wpList_append_fits _ rfl (.tmp 104) (.tmp 109) 22 rfl wo.heap.size 9 i0 1 Try.underlying22 hi0 hz1 wo.heap.size n len _ rfl (HOq.out.alloc _) ⟨wq.heap.size, 0, none⟩ 1 1 [.string s] rfl rfl (cell_one_new _ _ _) (B.str_one s) (by omega) ?_; intro w6 hown6 hgrow6; have HO6 : Hid (w6.ownsRow wo.heap.size 9 1 (.slice (some ⟨wo.heap.size, 0, none⟩) (n + 1) len) (n + 1) (strv (rst xs x m) ++ [.string s])) := hown6; have HB6 : Hid (Below wo.heap.size wo w6) := (HBq.out.alloc HBq.out.size _).grown hgrow6 (by simpa using Nat.le_succ_of_le HBq.out.size) (fun k h => by cases h; exact Nat.le_refl _); clear hown6 hgrow6)
                    go_roundw
                    case rel => exact ⟨m + 1, n + 1, by omega, by go_num, rfl, by rw [hRm.out, List.length_append, ← HNn.out]; rfl, by rw [hRm.out]; exact (show w6.ownsRow wo.heap.size 9 1 (.slice (some ⟨wo.heap.size, 0, none⟩) (n + 1) len) (n + 1) (strv (rst xs x m ++ [s])) by simpa [strv] using HO6.out), HB6⟩
                    case measure => simp [intOf]; omega
                · have hme : m = len := by omega
                  subst hme
                  have hBq := HBq.out.size
                  have hnl : n = m - 1 := by rw [HNn.out, rst_len xs x m (by rw [HN.out]; exact Nat.le_refl _), if_pos (by omega)]
                  have hn1 : n + 1 ≤ m := by omega
                  have hn2 : m ≤ n + 1 := by omega
                  clear hnl
                  have hbq : b < wq.heap.size := by omega
                  have hgq : wo.heap.size < wq.heap.size := by
                    have := HOq.out.lt wo.heap.size rfl
                    exact this.2
                  obtain ⟨s, hs⟩ : ∃ s, s = xs.getD x ByteArray.empty := ⟨_, rfl⟩
                  have HS : Hid (s = xs.getD x ByteArray.empty) := hs
                  clear hs
                  obtain ⟨L1, hL1⟩ : ∃ L1, L1 = (rst xs x m).take t := ⟨_, rfl⟩
                  obtain ⟨L2, hL2⟩ : ∃ L2, L2 = (rst xs x m).drop t := ⟨_, rfl⟩
                  have HL1 : Hid (L1 = (rst xs x m).take t) := hL1
                  have HL2 : Hid (L2 = (rst xs x m).drop t) := hL2
                  have HL1n : Hid (L1.length = t) := by
                    show L1.length = t
                    rw [hL1, List.length_take, ← HNn.out]; omega
                  have HL2n : Hid (L2.length = n - t) := by
                    show L2.length = n - t
                    rw [hL2, List.length_drop, ← HNn.out]
                  clear hL1 hL2
                  have HP1 : Hid (∀ j, j < L1.length → (rst xs x m)[0 + j]? = L1[j]?) := by
                    intro j hj
                    rw [HL1n.out] at hj
                    rw [HL1.out, List.getElem?_take, if_pos hj, Nat.zero_add]
                  have HP2 : Hid (∀ j, j < L2.length → (rst xs x m)[t + j]? = L2[j]?) := by
                    intro j hj
                    rw [HL2.out, List.getElem?_drop]
                  go_wp2_with (first
                    | (at_make; refine wpList_make_own _ rfl _ _ 22 rfl wq.heap.size 9 i0 (.string ⟨#[]⟩) 1 Try.underlying22 hi0 hz0 hz1 _ _ _ m rfl rfl (by omega) (by rw [HZ.out]; omega) (by unfold maxLen; omega) (Nat.le_refl _) ?_; intro w7 hown7 hgrow7; have HO7 : Hid (w7.ownsRow wq.heap.size 9 1 (.slice (some ⟨wq.heap.size, 0, none⟩) 0 m) 0 []) := hown7; have HB7 : Hid (Below wq.heap.size wq w7) := (Below.refl _ _).grown hgrow7 (Nat.le_refl _) (fun k h => by cases h); clear hown7 hgrow7)
                    | (at_builtin; refine wpList_append_fits_any _ rfl (.tmp 114) (.tmp 117) 22 rfl wq.heap.size 9 i0 1 Try.underlying22 hi0 hz1 wq.heap.size 0 m [] rfl HO7.out _ t _ (strv L1) rfl (by rw [strv_len, HL1n.out]; omega) (fun h => by cases h) (B.cells_part HOq.out HB7.out hgq HP1.out) (B.strv_one _) (by omega) ?_; intro w8 hown8 hgrow8; have HO8 : Hid (w8.ownsRow wq.heap.size 9 1 (.slice (some ⟨wq.heap.size, 0, none⟩) t m) t (strv L1)) := (show w8.ownsRow wq.heap.size 9 1 (.slice (some ⟨wq.heap.size, 0, none⟩) t m) t (strv L1) by simpa using hown8); have HB8 : Hid (Below wq.heap.size wq w8) := HB7.out.grown hgrow8 HB7.out.size (fun k h => by cases h; exact Nat.le_refl _); have hcx := B.arg_below (B.arg_below (B.arg_below HA.out HBr.out hb) HBq.out hbr) HB8.out hbq x (by rw [HN.out]; omega); rw [← HS.out] at hcx; clear hown8 hgrow8)
                    | (at_builtin; refine wpList_append_fits _ rfl (.tmp 119) (.tmp 124) 22 rfl wq.heap.size 9 i0 1 Try.underlying22 hi0 hz1 wq.heap.size t m _ rfl (HO8.out.alloc _) ⟨w8.heap.size, 0, none⟩ 1 1 [.string s] rfl rfl (cell_one_new _ _ _) (B.str_one s) (by omega) ?_; intro w9 hown9 hgrow9; have HO9 : Hid (w9.ownsRow wq.heap.size 9 1 (.slice (some ⟨wq.heap.size, 0, none⟩) (t + 1) m) (t + 1) (strv L1 ++ [.string s])) := hown9; have HB9 : Hid (Below wq.heap.size wq w9) := (HB8.out.alloc HB8.out.size _).grown hgrow9 (by simpa using Nat.le_succ_of_le HB8.out.size) (fun k h => by cases h; exact Nat.le_refl _); clear hown9 hgrow9 hcx)
                    | (at_builtin; refine wpList_append_fits_any _ rfl (.tmp 126) (.tmp 129) 22 rfl wq.heap.size 9 i0 1 Try.underlying22 hi0 hz1 wq.heap.size (t + 1) m _ rfl HO9.out _ (n - t) _ (strv L2) rfl (by rw [strv_len, HL2n.out]; omega) (fun h => by cases h) (B.cells_part HOq.out HB9.out hgq HP2.out) (B.strv_one _) (by omega) ?_; intro w10 hown10 hgrow10; have HO10 : Hid (w10.ownsRow wq.heap.size 9 1 (.slice (some ⟨wq.heap.size, 0, none⟩) (t + 1 + (n - t)) m) (t + 1 + (n - t)) ((strv L1 ++ [.string s]) ++ strv L2)) := hown10; have HB10 : Hid (Below wq.heap.size wq w10) := HB9.out.grown hgrow10 HB9.out.size (fun k h => by cases h; exact Nat.le_refl _); clear hown10 hgrow10))
                  have HW : Hid (w10.ownsRow wq.heap.size 9 1 (.slice (some ⟨wq.heap.size, 0, none⟩) (t + 1 + (n - t)) m) (t + 1 + (n - t)) (strv (wantL xs x t))) := by
                    have e : strv (wantL xs x t) = (strv L1 ++ [.string s]) ++ strv L2 := by
                      unfold wantL
                      rw [HN.out, ← HL1.out, ← HL2.out, ← HS.out]
                      simp [strv]
                    rw [e]
                    exact HO10
                  go_loopw [15] (fun c wz => ∃ (p : Nat), p ≤ m ∧ c = .int .i64 p ∧ Hid (Below w10.heap.size w10 wz)) (fun c _ => m - (intOf c).toNat)
                  case atStart => exact ⟨0, Nat.zero_le _, rfl, Below.refl _ _⟩
                  case round =>
                    rename World => wz
                    obtain ⟨p, hp, rfl, HBz⟩ := hrel
                    by_cases hpl : p < m
                    · have hcC := (B.row_below (B.row_below (B.row_below HRr.out HBq.out hBw) HB10.out (by omega)) HBz.out (by have := HB10.out.size; omega)).cell p (by rw [HY.out]; exact hpl)
                      rw [HV.out.2 p (by rw [HN.out]; exact hpl)] at hcC
                      have hcW : wz.cell? ⟨wq.heap.size, p, none⟩ = some (.string (mvG xs x t p)) := by
                        rw [HBz.out.cell (p := ⟨wq.heap.size, p, none⟩) (HW.out.lt wq.heap.size rfl).2, HW.out.cellAt p (by omega), strv_get _ _ (by rw [want_len xs x t (by rw [HN.out]; omega) (by rw [HN.out]; omega), HN.out]; exact hpl), want_get xs x t p (by rw [HN.out]; omega) (by rw [HN.out]; omega)]
                      obtain ⟨u, hu⟩ : ∃ u, u = mvG xs x t p := ⟨_, rfl⟩
                      rw [← hu] at hcC hcW
                      clear hu
                      have hpn : p < t + 1 + (n - t) := by omega
                      go_wp2
                      go_quiet (fail)
                      go_wp2
                      go_roundw
                      case rel => exact ⟨p + 1, by omega, by go_num, below_drewN HBz.out nq⟩
                      case measure => simp [intOf]; omega
                    · go_wp2
                      go_ret
                      exact ⟨rfl, ((HBr.out.trans (HBq.out.mono (by omega))).trans (HB10.out.mono (by omega))).trans (HBz.out.mono (by have := HB10.out.size; omega))⟩
        · have hyx : decide (x < y) = false := decide_eq_false (by omega)
          go_wp2_with (at_make; refine wpList_make_full _ rfl (.tmp 62) (.tmp 62) 22 rfl w.heap.size 9 i0 (.string ⟨#[]⟩) 1 Try.underlying22 hi0 hz0 hz1 .i64 .i64 _ _ len rfl rfl (by omega) (by omega) (by rw [HZ.out]; omega) (by unfold maxLen; omega) (Nat.le_refl _) ?_; intro w1 hown hgrow; obtain ⟨w2, hcp, hrow2, hbel2, hsz2⟩ := B.copy_step w1 w.heap.size b off len cap xs _ HN.out (row_of_owns hown) (by simpa using hown.1) (B.arg_below HA.out ((Below.refl _ _).grown hgrow (Nat.le_refl _) (fun k h => by cases h)) hb); have HR2 : Hid (Row w2 w.heap.size xs) := hrow2; have HB2 : Hid (Below w.heap.size w w2) := ((Below.refl _ _).grown hgrow (Nat.le_refl _) (fun k h => by cases h)).trans hbel2; clear hown hgrow hrow2 hbel2 hsz2)
          go_loopw [11] (fun a wr => ∃ (t : Nat) (ys : List ByteArray), t ≤ x ∧ y ≤ t ∧ a = .int .i64 t ∧ Hid (Mv xs x t ys) ∧ Hid (Row wr w.heap.size ys) ∧ Hid (Below w.heap.size w wr))
            (fun a _ => ((intOf a).toNat - y))
          case atStart => exact ⟨x, _, Nat.le_refl _, by omega, rfl, mv_start xs x, HR2, HB2⟩
          case round =>
            obtain ⟨t, ys, ht1, ht2, rfl, HV, HRr, HBr⟩ := hrel
            have hyl : ys.length = len := HV.out.1.trans HN.out
            have HY : Hid (ys.length = len) := hyl
            clear hyl
            by_cases hab : y < t
            · obtain ⟨t', rfl⟩ : ∃ t', t = t' + 1 := ⟨t - 1, by omega⟩
              go_wp2_with (go_at_call 9; refine (zzswap_int w.heap.size len len ys _ _ t' (t' + 1) _ (by omega) (by omega) HY.out (by omega) (by omega) HRr.out).mono ?_; rintro e w4 ⟨rfl, h1, h2, h3⟩; have HR4 : Hid (Row w4 w.heap.size (swp ys t' (t' + 1))) := h1; have HB4 : Hid (Below w.heap.size w w4) := HBr.out.trans h2; clear h1 h2 h3)
              go_roundw
              case rel => exact ⟨t', _, by omega, by omega, by go_num, mv_down xs ys x t' HV.out (by omega) (by rw [HN.out]; omega), HR4, HB4⟩
              case measure => simp [intOf]; omega
            · have hty : t = y := by omega
              subst hty
              rename World => wo
              have hBw : w.heap.size < wo.heap.size := HRr.out.lt
              have hbr : b < wo.heap.size := by omega
              go_wp2_with (at_make; refine wpList_make_own _ rfl _ _ 22 rfl wo.heap.size 9 i0 (.string ⟨#[]⟩) 1 Try.underlying22 hi0 hz0 hz1 _ _ _ len rfl rfl (by omega) (by rw [HZ.out]; omega) (by unfold maxLen; omega) (Nat.le_refl _) ?_; intro w5 hown5 hgrow5; have HO5 : Hid (w5.ownsRow wo.heap.size 9 1 (.slice (some ⟨wo.heap.size, 0, none⟩) 0 len) 0 []) := hown5; have HB5 : Hid (Below wo.heap.size wo w5) := (Below.refl _ _).grown hgrow5 (Nat.le_refl _) (fun k h => by cases h); clear hown5 hgrow5)
              go_loopw [12, 13] (fun v c wq => ∃ (m n : Nat), m ≤ len ∧ c = .int .i64 m ∧ v = .slice (some ⟨wo.heap.size, 0, none⟩) n len ∧ Hid (n = (rst xs x m).length) ∧ Hid (wq.ownsRow wo.heap.size 9 1 (.slice (some ⟨wo.heap.size, 0, none⟩) n len) n (strv (rst xs x m))) ∧ Hid (Below wo.heap.size wo wq))
                (fun _ c _ => len - (intOf c).toNat)
              case atStart => exact ⟨0, 0, Nat.zero_le _, rfl, rfl, by rw [rst_zero]; rfl, by rw [rst_zero]; exact HO5, HB5⟩
              case round =>
                rename World => wq
                obtain ⟨m, n, hm, rfl, rfl, HNn, HOq, HBq⟩ := hrel
                have hnm : n ≤ m := by rw [HNn.out]; exact rst_le xs x m (by rw [HN.out]; exact hm)
                by_cases hml : m < len
                · by_cases hmx : m = x
                  · have HX : Hid (m = x) := hmx
                    have hmx' : ((m : Int) != (x : Int)) = false := by simp [hmx]
                    have hRm : Hid (rst xs x (m + 1) = rst xs x m) := by rw [hmx]; exact rst_hit xs x (by rw [HN.out]; omega)
                    clear hmx
                    go_wp2
                    go_roundw
                    case rel => exact ⟨m + 1, n, by omega, by go_num, rfl, by rw [hRm.out]; exact HNn, by rw [hRm.out]; exact HOq, HBq⟩
                    case measure => simp [intOf]; omega
                  · have HX : Hid (m ≠ x) := hmx
                    have hmx' : ((m : Int) != (x : Int)) = true := by simp; omega
                    have hRm : Hid (rst xs x (m + 1) = rst xs x m ++ [xs.getD m ByteArray.empty]) := rst_miss xs x m (by rw [HN.out]; exact hml) hmx
                    clear hmx
                    have hc := B.arg_below (B.arg_below HA.out HBr.out hb) HBq.out hbr m (by rw [HN.out]; exact hml)
                    obtain ⟨s, hs⟩ : ∃ s, s = xs.getD m ByteArray.empty := ⟨_, rfl⟩
                    rw [← hs] at hc hRm
                    clear hs
                    go_wp2_with (at_builtin; refine wpList_append_fits _ rfl (.tmp 104) (.tmp 109) 22 rfl wo.heap.size 9 i0 1 Try.underlying22 hi0 hz1 wo.heap.size n len _ rfl (HOq.out.alloc _) ⟨wq.heap.size, 0, none⟩ 1 1 [.string s] rfl rfl (cell_one_new _ _ _) (B.str_one s) (by omega) ?_; intro w6 hown6 hgrow6; have HO6 : Hid (w6.ownsRow wo.heap.size 9 1 (.slice (some ⟨wo.heap.size, 0, none⟩) (n + 1) len) (n + 1) (strv (rst xs x m) ++ [.string s])) := hown6; have HB6 : Hid (Below wo.heap.size wo w6) := (HBq.out.alloc HBq.out.size _).grown hgrow6 (by simpa using Nat.le_succ_of_le HBq.out.size) (fun k h => by cases h; exact Nat.le_refl _); clear hown6 hgrow6)
                    go_roundw
                    case rel => exact ⟨m + 1, n + 1, by omega, by go_num, rfl, by rw [hRm.out, List.length_append, ← HNn.out]; rfl, by rw [hRm.out]; exact (show w6.ownsRow wo.heap.size 9 1 (.slice (some ⟨wo.heap.size, 0, none⟩) (n + 1) len) (n + 1) (strv (rst xs x m ++ [s])) by simpa [strv] using HO6.out), HB6⟩
                    case measure => simp [intOf]; omega
                · have hme : m = len := by omega
                  subst hme
                  have hBq := HBq.out.size
                  have hnl : n = m - 1 := by rw [HNn.out, rst_len xs x m (by rw [HN.out]; exact Nat.le_refl _), if_pos (by omega)]
                  have hn1 : n + 1 ≤ m := by omega
                  have hn2 : m ≤ n + 1 := by omega
                  clear hnl
                  have hbq : b < wq.heap.size := by omega
                  have hgq : wo.heap.size < wq.heap.size := by
                    have := HOq.out.lt wo.heap.size rfl
                    exact this.2
                  obtain ⟨s, hs⟩ : ∃ s, s = xs.getD x ByteArray.empty := ⟨_, rfl⟩
                  have HS : Hid (s = xs.getD x ByteArray.empty) := hs
                  clear hs
                  obtain ⟨L1, hL1⟩ : ∃ L1, L1 = (rst xs x m).take t := ⟨_, rfl⟩
                  obtain ⟨L2, hL2⟩ : ∃ L2, L2 = (rst xs x m).drop t := ⟨_, rfl⟩
                  have HL1 : Hid (L1 = (rst xs x m).take t) := hL1
                  have HL2 : Hid (L2 = (rst xs x m).drop t) := hL2
                  have HL1n : Hid (L1.length = t) := by
                    show L1.length = t
                    rw [hL1, List.length_take, ← HNn.out]; omega
                  have HL2n : Hid (L2.length = n - t) := by
                    show L2.length = n - t
                    rw [hL2, List.length_drop, ← HNn.out]
                  clear hL1 hL2
                  have HP1 : Hid (∀ j, j < L1.length → (rst xs x m)[0 + j]? = L1[j]?) := by
                    intro j hj
                    rw [HL1n.out] at hj
                    rw [HL1.out, List.getElem?_take, if_pos hj, Nat.zero_add]
                  have HP2 : Hid (∀ j, j < L2.length → (rst xs x m)[t + j]? = L2[j]?) := by
                    intro j hj
                    rw [HL2.out, List.getElem?_drop]
                  go_wp2_with (first
                    | (at_make; refine wpList_make_own _ rfl _ _ 22 rfl wq.heap.size 9 i0 (.string ⟨#[]⟩) 1 Try.underlying22 hi0 hz0 hz1 _ _ _ m rfl rfl (by omega) (by rw [HZ.out]; omega) (by unfold maxLen; omega) (Nat.le_refl _) ?_; intro w7 hown7 hgrow7; have HO7 : Hid (w7.ownsRow wq.heap.size 9 1 (.slice (some ⟨wq.heap.size, 0, none⟩) 0 m) 0 []) := hown7; have HB7 : Hid (Below wq.heap.size wq w7) := (Below.refl _ _).grown hgrow7 (Nat.le_refl _) (fun k h => by cases h); clear hown7 hgrow7)
                    | (at_builtin; refine wpList_append_fits_any _ rfl (.tmp 114) (.tmp 117) 22 rfl wq.heap.size 9 i0 1 Try.underlying22 hi0 hz1 wq.heap.size 0 m [] rfl HO7.out _ t _ (strv L1) rfl (by rw [strv_len, HL1n.out]; omega) (fun h => by cases h) (B.cells_part HOq.out HB7.out hgq HP1.out) (B.strv_one _) (by omega) ?_; intro w8 hown8 hgrow8; have HO8 : Hid (w8.ownsRow wq.heap.size 9 1 (.slice (some ⟨wq.heap.size, 0, none⟩) t m) t (strv L1)) := (show w8.ownsRow wq.heap.size 9 1 (.slice (some ⟨wq.heap.size, 0, none⟩) t m) t (strv L1) by simpa using hown8); have HB8 : Hid (Below wq.heap.size wq w8) := HB7.out.grown hgrow8 HB7.out.size (fun k h => by cases h; exact Nat.le_refl _); have hcx := B.arg_below (B.arg_below (B.arg_below HA.out HBr.out hb) HBq.out hbr) HB8.out hbq x (by rw [HN.out]; omega); rw [← HS.out] at hcx; clear hown8 hgrow8)
                    | (at_builtin; refine wpList_append_fits _ rfl (.tmp 119) (.tmp 124) 22 rfl wq.heap.size 9 i0 1 Try.underlying22 hi0 hz1 wq.heap.size t m _ rfl (HO8.out.alloc _) ⟨w8.heap.size, 0, none⟩ 1 1 [.string s] rfl rfl (cell_one_new _ _ _) (B.str_one s) (by omega) ?_; intro w9 hown9 hgrow9; have HO9 : Hid (w9.ownsRow wq.heap.size 9 1 (.slice (some ⟨wq.heap.size, 0, none⟩) (t + 1) m) (t + 1) (strv L1 ++ [.string s])) := hown9; have HB9 : Hid (Below wq.heap.size wq w9) := (HB8.out.alloc HB8.out.size _).grown hgrow9 (by simpa using Nat.le_succ_of_le HB8.out.size) (fun k h => by cases h; exact Nat.le_refl _); clear hown9 hgrow9 hcx)
                    | (at_builtin; refine wpList_append_fits_any _ rfl (.tmp 126) (.tmp 129) 22 rfl wq.heap.size 9 i0 1 Try.underlying22 hi0 hz1 wq.heap.size (t + 1) m _ rfl HO9.out _ (n - t) _ (strv L2) rfl (by rw [strv_len, HL2n.out]; omega) (fun h => by cases h) (B.cells_part HOq.out HB9.out hgq HP2.out) (B.strv_one _) (by omega) ?_; intro w10 hown10 hgrow10; have HO10 : Hid (w10.ownsRow wq.heap.size 9 1 (.slice (some ⟨wq.heap.size, 0, none⟩) (t + 1 + (n - t)) m) (t + 1 + (n - t)) ((strv L1 ++ [.string s]) ++ strv L2)) := hown10; have HB10 : Hid (Below wq.heap.size wq w10) := HB9.out.grown hgrow10 HB9.out.size (fun k h => by cases h; exact Nat.le_refl _); clear hown10 hgrow10))
                  have HW : Hid (w10.ownsRow wq.heap.size 9 1 (.slice (some ⟨wq.heap.size, 0, none⟩) (t + 1 + (n - t)) m) (t + 1 + (n - t)) (strv (wantL xs x t))) := by
                    have e : strv (wantL xs x t) = (strv L1 ++ [.string s]) ++ strv L2 := by
                      unfold wantL
                      rw [HN.out, ← HL1.out, ← HL2.out, ← HS.out]
                      simp [strv]
                    rw [e]
                    exact HO10
                  go_loopw [15] (fun c wz => ∃ (p : Nat), p ≤ m ∧ c = .int .i64 p ∧ Hid (Below w10.heap.size w10 wz)) (fun c _ => m - (intOf c).toNat)
                  case atStart => exact ⟨0, Nat.zero_le _, rfl, Below.refl _ _⟩
                  case round =>
                    rename World => wz
                    obtain ⟨p, hp, rfl, HBz⟩ := hrel
                    by_cases hpl : p < m
                    · have hcC := (B.row_below (B.row_below (B.row_below HRr.out HBq.out hBw) HB10.out (by omega)) HBz.out (by have := HB10.out.size; omega)).cell p (by rw [HY.out]; exact hpl)
                      rw [HV.out.2 p (by rw [HN.out]; exact hpl)] at hcC
                      have hcW : wz.cell? ⟨wq.heap.size, p, none⟩ = some (.string (mvG xs x t p)) := by
                        rw [HBz.out.cell (p := ⟨wq.heap.size, p, none⟩) (HW.out.lt wq.heap.size rfl).2, HW.out.cellAt p (by omega), strv_get _ _ (by rw [want_len xs x t (by rw [HN.out]; omega) (by rw [HN.out]; omega), HN.out]; exact hpl), want_get xs x t p (by rw [HN.out]; omega) (by rw [HN.out]; omega)]
                      obtain ⟨u, hu⟩ : ∃ u, u = mvG xs x t p := ⟨_, rfl⟩
                      rw [← hu] at hcC hcW
                      clear hu
                      have hpn : p < t + 1 + (n - t) := by omega
                      go_wp2
                      go_quiet (fail)
                      go_wp2
                      go_roundw
                      case rel => exact ⟨p + 1, by omega, by go_num, below_drewN HBz.out nq⟩
                      case measure => simp [intOf]; omega
                    · go_wp2
                      go_ret
                      exact ⟨rfl, ((HBr.out.trans (HBq.out.mono (by omega))).trans (HB10.out.mono (by omega))).trans (HBz.out.mono (by have := HB10.out.size; omega))⟩
      · by_cases g1 : i < 0
        · clear hin
          go_wp2
          go_ret
          exact ⟨rfl, Below.refl _ _⟩
        · by_cases g2 : (len : Int) ≤ i
          · clear hin
            go_wp2
            go_ret
            exact ⟨rfl, Below.refl _ _⟩
          · by_cases g3 : j < 0
            · clear hin
              go_wp2
              go_ret
              exact ⟨rfl, Below.refl _ _⟩
            · have g4 : (len : Int) ≤ j := by omega
              clear hin
              go_wp2
              go_ret
              exact ⟨rfl, Below.refl _ _⟩
end Go.Proofs.Qxb6616265a
