import Derived.Test.Qxb6616265aByt
namespace Go.Proofs.Qxb6616265a
open Go.RowKit

/-- copy(c, h) into the row that make has just laid. -/
theorem copy_step (w1 : World) (g b off len cap : Nat) (xs : List ByteArray) (cur : List Value) (hn : xs.length = len) (hg : w1.heap[g]? = some (.cells cur.toArray 9 (0, 0))) (hcur : cur.length = len) (hA : Arg w1 b off xs) :
    ∃ w2, (Builtin.copy_ #[22, 22] 3 #[.slice (some ⟨g, 0, none⟩) len len, .slice (some ⟨b, off, none⟩) len cap]).run Try.prog w1 = .ok (.int .i64 len) w2 ∧ Row w2 g xs ∧ Below g w1 w2 ∧ w2.heap.size = w1.heap.size := by
  have hsz : (Try.prog.info? 9).map (·.size) = some 1 := by kernel_rfl
  have hr := run_copy_row (P := Try.prog) w1 22 22 3 9 g 0 len len ⟨b, off, none⟩ len cap cur.toArray 9 (strv xs) Try.underlying22 hsz hg (by rw [strv_len, hn]; simp) (fun j v hv => by
      have hj : j < xs.length := by rw [← strv_len]; exact (List.getElem?_eq_some_iff.1 hv).1
      rw [strv_get xs j hj] at hv
      rw [← Option.some.inj hv, show (⟨b, off, none⟩ : Addr).add j = ⟨b, off + j, none⟩ by unfold Addr.add; split <;> simp_all]
      exact hA j hj) (by simp [strv_len]; omega) (fun v hv => by
      obtain ⟨s, _, rfl⟩ := List.mem_map.1 hv
      rfl)
  rw [strv_len, hn] at hr
  refine ⟨_, hr, ?_, ⟨rfl, rfl, rfl, by simp [World.setRow], fun k hk => setRow_other w1 g k _ (by omega)⟩, by simp [World.setRow]⟩
  unfold Row
  rw [setRow_heap w1 g _ _ 9 _ hg]
  simp
  omega

/-- The segment from lo to hi, t places of it exchanged from both ends. -/
def Rv (xs : List ByteArray) (lo hi t : Nat) (ys : List ByteArray) : Prop :=
  ys.length = xs.length ∧ lo + t ≤ hi + 1 ∧ ∀ k, k < xs.length → ys.getD k ByteArray.empty = if (lo ≤ k ∧ k < lo + t) ∨ (hi < k + t ∧ k ≤ hi) then xs.getD (lo + hi - k) ByteArray.empty else xs.getD k ByteArray.empty

theorem rv_first (xs : List ByteArray) (i j lo hi : Nat) (hi1 : i < xs.length) (hj1 : j < xs.length) (h : (lo = i ∧ hi = j) ∨ (lo = j ∧ hi = i)) (hle : lo ≤ hi) : Rv xs lo hi 1 (swp xs i j) := by
  refine ⟨swp_len _ _ _, by omega, fun k hk => ?_⟩
  rw [swp_get xs i j k hi1 hj1]
  rcases h with ⟨rfl, rfl⟩ | ⟨rfl, rfl⟩
  · by_cases h1 : k = hi
    · subst h1; rw [if_pos rfl, if_pos (by omega), show lo + k - k = lo by omega]
    · rw [if_neg h1]
      by_cases h2 : k = lo
      · subst h2; rw [if_pos rfl, if_pos (by omega), show k + hi - k = hi by omega]
      · rw [if_neg h2, if_neg (by omega)]
  · by_cases h1 : k = lo
    · subst h1; rw [if_pos rfl, if_pos (by omega), show k + hi - k = hi by omega]
    · rw [if_neg h1]
      by_cases h2 : k = hi
      · subst h2; rw [if_pos rfl, if_pos (by omega), show lo + k - k = lo by omega]
      · rw [if_neg h2, if_neg (by omega)]

theorem rv_step (xs ys : List ByteArray) (lo hi t : Nat) (hhi : hi < xs.length) (h : Rv xs lo hi t ys) (hlt : lo + t + t < hi) : Rv xs lo hi (t + 1) (swp ys (lo + t) (hi - t)) := by
  obtain ⟨hl, hb, hk⟩ := h
  refine ⟨by rw [swp_len, hl], by omega, fun k hk' => ?_⟩
  rw [swp_get ys _ _ k (by omega) (by omega)]
  by_cases h1 : k = hi - t
  · rw [if_pos h1, if_pos (by omega), hk (lo + t) (by omega), if_neg (by omega), show lo + hi - k = lo + t by omega]
  · rw [if_neg h1]
    by_cases h2 : k = lo + t
    · rw [if_pos h2, if_pos (by omega), hk (hi - t) (by omega), if_neg (by omega), show lo + hi - k = hi - t by omega]
    · rw [if_neg h2, hk k hk']
      by_cases h3 : (lo ≤ k ∧ k < lo + t) ∨ (hi < k + t ∧ k ≤ hi)
      · rw [if_pos h3, if_pos (by omega)]
      · rw [if_neg h3, if_neg (by omega)]

theorem rv_end (xs ys : List ByteArray) (lo hi t : Nat) (h : Rv xs lo hi t ys) (ht : hi ≤ lo + t + t) (k : Nat) (hk : k < xs.length) :
    ys.getD k ByteArray.empty = if lo ≤ k ∧ k ≤ hi then xs.getD (lo + hi - k) ByteArray.empty else xs.getD k ByteArray.empty := by
  obtain ⟨_, hb, h⟩ := h
  rw [h k hk]
  by_cases h1 : lo ≤ k ∧ k ≤ hi
  · rw [if_pos h1]
    by_cases h2 : (lo ≤ k ∧ k < lo + t) ∨ (hi < k + t ∧ k ≤ hi)
    · rw [if_pos h2]
    · rw [if_neg h2, show lo + hi - k = k by omega]
  · rw [if_neg h1, if_neg (by omega)]

theorem Arg.below {w w' : World} {B b off : Nat} {xs : List ByteArray} (h : Arg w b off xs) (hb : Below B w w') (hB : b < B) : Arg w' b off xs := fun t ht => (hb.cell (by exact hB)).trans (h t ht)

set_option maxRecDepth 100000 in
set_option maxHeartbeats 2000000 in
theorem lawA_any (b off len cap : Nat) (xs : List ByteArray) (i j : Int) (w : World) (hn : xs.length = len) (hreach : len * 16 ≤ 140737488351232) (hb : b < w.heap.size) (hA : Arg w b off xs) :
    Calls Try.prog 3 #[.slice (some ⟨b, off, none⟩) len cap, .int .i64 i, .int .i64 j] w fun e w' => e = .returned (.bool true) ∧ Below w.heap.size w w' := by
  obtain ⟨i0, hi0, hz0, hz1, hz2⟩ := info_parts info9
  have HA : Hid (Arg w b off xs) := hA
  have HN : Hid (xs.length = len) := hn
  have HZ : Hid (i0.bytes = 16) := hz2
  clear hA hn hz2
  go_enter Try.func3, Try.ntmps3
  go_wp2_with (go_at_call 8; refine (zzBytes8 b off len cap xs _ _ _ HN.out hreach HA.out).mono ?_; rintro e w' ⟨⟨r, rfl⟩, rfl⟩)
  · go_ret
    exact ⟨rfl, Below.refl _ _⟩
  go_loop [7, 8] (fun t i => ∃ (k : Nat) (T : Int), k ≤ len ∧ i = .int .i64 k ∧ t = .int .i64 T ∧ 0 ≤ T ∧ T ≤ 1048576) (fun _ i => len - (intOf i).toNat)
  case atStart => exact ⟨0, 0, Nat.zero_le _, rfl, rfl, by omega, by omega⟩
  case round =>
    obtain ⟨k, T, hk, rfl, rfl, hT0, hT⟩ := hrel
    by_cases hlt : k < len
    · have hc := HA.out k (by rw [HN.out]; exact hlt)
      obtain ⟨s, hs⟩ : ∃ s, s = xs.getD k ByteArray.empty := ⟨_, rfl⟩
      rw [← hs] at hc
      clear hs
      go_wp2
      · go_ret
        exact ⟨rfl, Below.refl _ _⟩
      · go_ret
        exact ⟨rfl, Below.refl _ _⟩
      · go_round
        case rel => exact ⟨k + 1, T + (s.size + 16), by omega, by go_num, by go_num, by omega, by omega⟩
        case measure => simp [intOf]; omega
    · by_cases hin : 0 ≤ i ∧ i < len ∧ 0 ≤ j ∧ j < len
      · obtain ⟨hi1, hi2, hj1, hj2⟩ := hin
        obtain ⟨x, rfl⟩ : ∃ x : Nat, i = x := ⟨i.toNat, by omega⟩
        obtain ⟨y, rfl⟩ : ∃ y : Nat, j = y := ⟨j.toNat, by omega⟩
        have hx0 : decide ((x : Int) < 0) = false := decide_eq_false (by omega)
        have hy0 : decide ((y : Int) < 0) = false := decide_eq_false (by omega)
        by_cases hxy : x ≤ y
        · have hyx : decide (y < x) = false := decide_eq_false (by omega)
          go_wp2_with (first
            | (at_make; refine wpList_make_full _ rfl (.tmp 62) (.tmp 62) 22 rfl w.heap.size 9 i0 (.string ⟨#[]⟩) 1 Try.underlying22 hi0 hz0 hz1 .i64 .i64 _ _ len rfl rfl (by omega) (by omega) (by rw [HZ.out]; omega) (by unfold maxLen; omega) (Nat.le_refl _) ?_; intro w1 hown hgrow; obtain ⟨w2, hcp, hrow2, hbel2, hsz2⟩ := copy_step w1 w.heap.size b off len cap xs _ HN.out (row_of_owns hown) (by simpa using hown.1) (HA.out.below ((Below.refl _ _).grown hgrow (Nat.le_refl _) (fun k h => by cases h)) hb); have HR2 : Hid (Row w2 w.heap.size xs) := hrow2; have HB2 : Hid (Below w.heap.size w w2) := ((Below.refl _ _).grown hgrow (Nat.le_refl _) (fun k h => by cases h)).trans hbel2; clear hown hgrow hrow2 hbel2 hsz2)
            | (go_at_call 9; refine (zzswap_any w.heap.size len len xs x y _ HN.out (by omega) (by omega) HR2.out).mono ?_; rintro e w3 ⟨rfl, h1, h2, h3⟩; have HR3 : Hid (Row w3 w.heap.size (swp xs x y)) := h1; have HB3 : Hid (Below w.heap.size w w3) := HB2.out.trans h2; clear h1 h2 h3))
          go_loopw [12, 13] (fun a b wr => ∃ (t : Nat) (ys : List ByteArray), a = .int .i64 ((x : Int) + t) ∧ b = .int .i64 ((y : Int) - t) ∧ Hid (Rv xs x y t ys) ∧ Hid (Row wr w.heap.size ys) ∧ Hid (Below w.heap.size w wr))
            (fun a b _ => (intOf b - intOf a).toNat)
          case atStart => exact ⟨1, _, rfl, rfl, rv_first xs x y x y (by rw [HN.out]; omega) (by rw [HN.out]; omega) (Or.inl ⟨rfl, rfl⟩) hxy, HR3, HB3⟩
          case round =>
            obtain ⟨t, ys, rfl, rfl, HV, HRr, HBr⟩ := hrel
            have hlt1 := HV.out.2.1
            have hyl : ys.length = len := HV.out.1.trans HN.out
            have HY : Hid (ys.length = len) := hyl
            clear hyl
            by_cases hab : x + t + t < y
            · go_wp2_with (go_at_call 9; refine (zzswap_int w.heap.size len len ys _ _ (x + t) (y - t) _ (by omega) (by omega) HY.out (by omega) (by omega) HRr.out).mono ?_; rintro e w4 ⟨rfl, h1, h2, h3⟩; have HR4 : Hid (Row w4 w.heap.size (swp ys (x + t) (y - t))) := h1; have HB4 : Hid (Below w.heap.size w w4) := HBr.out.trans h2; clear h1 h2 h3)
              go_roundw
              case rel => exact ⟨t + 1, _, by go_num, by go_num, rv_step xs ys x y t (by rw [HN.out]; omega) HV.out hab, HR4, HB4⟩
              case measure => simp [intOf]; omega
            · go_wp2
              go_loop [14, 15] (fun k v => ∃ m : Nat, m ≤ len ∧ k = .int .i64 m) (fun k _ => len - (intOf k).toNat)
              case atStart => exact ⟨0, Nat.zero_le _, rfl⟩
              case round =>
                obtain ⟨m, hm, rfl⟩ := hrel
                by_cases hml : m < len
                · have hc1 := HA.out.below HBr.out hb m (by rw [HN.out]; exact hml)
                  have hc2 := HRr.out.cell m (by rw [HY.out]; exact hml)
                  rw [rv_end xs ys x y t HV.out (by omega) m (by rw [HN.out]; exact hml)] at hc2
                  by_cases hs : x ≤ m ∧ m ≤ y
                  · obtain ⟨hs1, hs2⟩ := hs
                    rw [if_pos ⟨hs1, hs2⟩] at hc2
                    have hc3 := HA.out.below HBr.out hb (x + y - m) (by rw [HN.out]; omega)
                    obtain ⟨u, hu⟩ : ∃ u, u = xs.getD m ByteArray.empty := ⟨_, rfl⟩
                    obtain ⟨v, hv⟩ : ∃ v, v = xs.getD (x + y - m) ByteArray.empty := ⟨_, rfl⟩
                    rw [← hu] at hc1
                    rw [← hv] at hc2 hc3
                    clear hu hv
                    have hix : (((x : Int) + (y : Int) - (m : Int))).toNat = x + y - m := by omega
                    go_wp2
                    go_round
                    case rel => exact ⟨m + 1, by omega, by go_num⟩
                    case measure => simp [intOf]; omega
                  · rw [if_neg hs] at hc2
                    obtain ⟨u, hu⟩ : ∃ u, u = xs.getD m ByteArray.empty := ⟨_, rfl⟩
                    rw [← hu] at hc1 hc2
                    clear hu
                    by_cases hs1 : x ≤ m
                    · have hs2 : ¬ m ≤ y := by omega
                      clear hs
                      go_wp2
                      go_round
                      case rel => exact ⟨m + 1, by omega, by go_num⟩
                      case measure => simp [intOf]; omega
                    · clear hs
                      go_wp2
                      go_round
                      case rel => exact ⟨m + 1, by omega, by go_num⟩
                      case measure => simp [intOf]; omega
                · go_wp2
                  go_ret
                  exact ⟨rfl, HBr.out⟩
        · have hyx : decide (y < x) = true := decide_eq_true (by omega)
          go_wp2_with (first
            | (at_make; refine wpList_make_full _ rfl (.tmp 62) (.tmp 62) 22 rfl w.heap.size 9 i0 (.string ⟨#[]⟩) 1 Try.underlying22 hi0 hz0 hz1 .i64 .i64 _ _ len rfl rfl (by omega) (by omega) (by rw [HZ.out]; omega) (by unfold maxLen; omega) (Nat.le_refl _) ?_; intro w1 hown hgrow; obtain ⟨w2, hcp, hrow2, hbel2, hsz2⟩ := copy_step w1 w.heap.size b off len cap xs _ HN.out (row_of_owns hown) (by simpa using hown.1) (HA.out.below ((Below.refl _ _).grown hgrow (Nat.le_refl _) (fun k h => by cases h)) hb); have HR2 : Hid (Row w2 w.heap.size xs) := hrow2; have HB2 : Hid (Below w.heap.size w w2) := ((Below.refl _ _).grown hgrow (Nat.le_refl _) (fun k h => by cases h)).trans hbel2; clear hown hgrow hrow2 hbel2 hsz2)
            | (go_at_call 9; refine (zzswap_any w.heap.size len len xs x y _ HN.out (by omega) (by omega) HR2.out).mono ?_; rintro e w3 ⟨rfl, h1, h2, h3⟩; have HR3 : Hid (Row w3 w.heap.size (swp xs x y)) := h1; have HB3 : Hid (Below w.heap.size w w3) := HB2.out.trans h2; clear h1 h2 h3))
          go_loopw [12, 13] (fun a b wr => ∃ (t : Nat) (ys : List ByteArray), a = .int .i64 ((y : Int) + t) ∧ b = .int .i64 ((x : Int) - t) ∧ Hid (Rv xs y x t ys) ∧ Hid (Row wr w.heap.size ys) ∧ Hid (Below w.heap.size w wr))
            (fun a b _ => (intOf b - intOf a).toNat)
          case atStart => exact ⟨1, _, rfl, rfl, rv_first xs x y y x (by rw [HN.out]; omega) (by rw [HN.out]; omega) (Or.inr ⟨rfl, rfl⟩) (by omega), HR3, HB3⟩
          case round =>
            obtain ⟨t, ys, rfl, rfl, HV, HRr, HBr⟩ := hrel
            have hlt1 := HV.out.2.1
            have hyl : ys.length = len := HV.out.1.trans HN.out
            have HY : Hid (ys.length = len) := hyl
            clear hyl
            by_cases hab : y + t + t < x
            · go_wp2_with (go_at_call 9; refine (zzswap_int w.heap.size len len ys _ _ (y + t) (x - t) _ (by omega) (by omega) HY.out (by omega) (by omega) HRr.out).mono ?_; rintro e w4 ⟨rfl, h1, h2, h3⟩; have HR4 : Hid (Row w4 w.heap.size (swp ys (y + t) (x - t))) := h1; have HB4 : Hid (Below w.heap.size w w4) := HBr.out.trans h2; clear h1 h2 h3)
              go_roundw
              case rel => exact ⟨t + 1, _, by go_num, by go_num, rv_step xs ys y x t (by rw [HN.out]; omega) HV.out hab, HR4, HB4⟩
              case measure => simp [intOf]; omega
            · go_wp2
              go_loop [14, 15] (fun k v => ∃ m : Nat, m ≤ len ∧ k = .int .i64 m) (fun k _ => len - (intOf k).toNat)
              case atStart => exact ⟨0, Nat.zero_le _, rfl⟩
              case round =>
                obtain ⟨m, hm, rfl⟩ := hrel
                by_cases hml : m < len
                · have hc1 := HA.out.below HBr.out hb m (by rw [HN.out]; exact hml)
                  have hc2 := HRr.out.cell m (by rw [HY.out]; exact hml)
                  rw [rv_end xs ys y x t HV.out (by omega) m (by rw [HN.out]; exact hml)] at hc2
                  by_cases hs : y ≤ m ∧ m ≤ x
                  · obtain ⟨hs1, hs2⟩ := hs
                    rw [if_pos ⟨hs1, hs2⟩] at hc2
                    have hc3 := HA.out.below HBr.out hb (y + x - m) (by rw [HN.out]; omega)
                    obtain ⟨u, hu⟩ : ∃ u, u = xs.getD m ByteArray.empty := ⟨_, rfl⟩
                    obtain ⟨v, hv⟩ : ∃ v, v = xs.getD (y + x - m) ByteArray.empty := ⟨_, rfl⟩
                    rw [← hu] at hc1
                    rw [← hv] at hc2 hc3
                    clear hu hv
                    have hix : (((y : Int) + (x : Int) - (m : Int))).toNat = y + x - m := by omega
                    go_wp2
                    go_round
                    case rel => exact ⟨m + 1, by omega, by go_num⟩
                    case measure => simp [intOf]; omega
                  · rw [if_neg hs] at hc2
                    obtain ⟨u, hu⟩ : ∃ u, u = xs.getD m ByteArray.empty := ⟨_, rfl⟩
                    rw [← hu] at hc1 hc2
                    clear hu
                    by_cases hs1 : y ≤ m
                    · have hs2 : ¬ m ≤ x := by omega
                      clear hs
                      go_wp2
                      go_round
                      case rel => exact ⟨m + 1, by omega, by go_num⟩
                      case measure => simp [intOf]; omega
                    · clear hs
                      go_wp2
                      go_round
                      case rel => exact ⟨m + 1, by omega, by go_num⟩
                      case measure => simp [intOf]; omega
                · go_wp2
                  go_ret
                  exact ⟨rfl, HBr.out⟩
      · by_cases g1 : i < 0
        · clear hin
          go_wp2
          go_ret
          exact ⟨rfl, Below.refl _ _⟩
        · by_cases g2 : (len : Int) ≤ i
          · clear hin
            go_wp2
            go_ret
            exact ⟨rfl, Below.refl _ _⟩
          · by_cases g3 : j < 0
            · clear hin
              go_wp2
              go_ret
              exact ⟨rfl, Below.refl _ _⟩
            · have g4 : (len : Int) ≤ j := by omega
              clear hin
              go_wp2
              go_ret
              exact ⟨rfl, Below.refl _ _⟩
end Go.Proofs.Qxb6616265a
