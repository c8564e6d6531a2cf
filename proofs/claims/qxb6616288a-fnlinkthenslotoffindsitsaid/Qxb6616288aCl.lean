import Derived.Test.Qxb6616288aSo
import Derived.ChangeAlike
namespace Go.Proofs.Qxb6616288a
open Go.RowKit

theorem info5 : (Try.prog.info? 5).map (fun i => (i.zero, i.size, i.bytes)) = some (some (.int .u8 0), 1, 1) := by kernel_rfl
/-- Bytes as cells. -/
def byv (xs : List Int) : List Value := xs.map (Value.int .u8)
theorem byv_len (xs : List Int) : (byv xs).length = xs.length := by simp [byv]
theorem byv_get (xs : List Int) (j : Nat) (h : j < xs.length) : (byv xs)[j]? = some (.int .u8 (xs.getD j 0)) := by
  simp [byv, List.getD, List.getElem?_eq_getElem h]
/-- Block g holds just these bytes. -/
def Row (w : World) (g : Nat) (xs : List Int) : Prop := w.heap[g]? = some (.cells (byv xs).toArray 5 (0, 0))
theorem Row.cell {w : World} {g : Nat} {xs : List Int} (h : Row w g xs) (j : Nat) (hj : j < xs.length) : w.cell? ⟨g, j, none⟩ = some (.int .u8 (xs.getD j 0)) := by
  rw [cell_of_row w g j _ 5 (0, 0) h]
  simpa using byv_get xs j hj
theorem Row.frozen {w : World} {g : Nat} {xs : List Int} (h : Row w g xs) (j : Nat) : w.frozen? ⟨g, j, none⟩ = false := frozen_of_row w g j _ 5 h
theorem Row.lt {w : World} {g : Nat} {xs : List Int} (h : Row w g xs) : g < w.heap.size := by
  unfold Row at h
  exact (Array.getElem?_eq_some_iff.1 h).1
theorem Row.set {w : World} {g : Nat} {xs : List Int} (h : Row w g xs) (j : Nat) (s : Int) : Row (w.setCell ⟨g, j, none⟩ (.int .u8 s)) g (xs.set j s) := by
  unfold Row at h ⊢
  rw [heap_setCell_same w g j _ 5 _ h]
  simp [byv, List.map_set]
theorem Row.below {w w' : World} {B g : Nat} {xs : List Int} (h : Row w g xs) (hb : Below B w w') (hB : g < B) : Row w' g xs := by
  unfold Row at h ⊢
  rw [hb.block g hB, h]
theorem row_of_owns {w : World} {base g n : Nat} {xs : List Value} (h : w.ownsRow base 5 1 (.slice (some ⟨g, 0, none⟩) n n) n xs) : w.heap[g]? = some (.cells xs.toArray 5 (0, 0)) := by
  rcases h.2 with ⟨h', _⟩ | ⟨g', cap', cur, h', _, hg, _, _, hcs, htake⟩
  · simp at h'
  · simp only [Value.slice.injEq, Option.some.injEq, Addr.mk.injEq, and_true, true_and] at h'
    obtain ⟨rfl, rfl⟩ := h'
    rw [hg]
    have e : cur.toList = xs := by rw [← htake, List.take_of_length_le (by simp; omega)]
    rw [← e]

/-- A row of len bytes of which the first k are f's. -/
def Cl (w : World) (g len : Nat) (f : Nat → Int) (k : Nat) : Prop := ∃ ys : List Int, ys.length = len ∧ (∀ j, j < k → ys.getD j 0 = f j) ∧ Row w g ys
theorem Cl.store {w : World} {g len k : Nat} {f : Nat → Int} (h : Cl w g len f k) (hk : k < len) (v : Int) (hv : v = f k) : Cl (w.setCell ⟨g, k, none⟩ (.int .u8 v)) g len f (k + 1) := by
  obtain ⟨ys, h1, h2, h3⟩ := h
  refine ⟨ys.set k v, by simp [h1], fun j hj => ?_, h3.set k v⟩
  by_cases e : j = k
  · subst e; simp [List.getD, h1, hk, hv]
  · rw [← h2 j (by omega)]
    simp [List.getD, Ne.symm e]
theorem cl_made {w : World} {base g len : Nat} (f : Nat → Int) {xs : List Value} (h : w.ownsRow base 5 1 (.slice (some ⟨g, 0, none⟩) len len) len xs) (hx : xs = List.replicate len (.int .u8 0)) : Cl w g len f 0 := by
  refine ⟨List.replicate len 0, by simp, fun j hj => by omega, ?_⟩
  unfold Row
  rw [row_of_owns h, hx]
  simp [byv]

set_option maxRecDepth 100000 in
set_option maxHeartbeats 1000000 in
theorem clone_any (b o len cap : Nat) (f : Nat → Int) (w : World) (hB : BS w b o f len) (hb : b < w.heap.size) (hl : (len : Int) ≤ 1048576) :
    Calls Try.prog 13 #[.slice (some ⟨b, o, none⟩) len cap] w fun e w' => e = .returned (.slice (some ⟨w.heap.size, 0, none⟩) len len) ∧ Cl w' w.heap.size len f len ∧ Below w.heap.size w w' := by
  obtain ⟨i0, hi0, hz0, hz1, hz2⟩ := info_parts info5
  have HB0 : Hid (BS w b o f len) := hB
  have HZ : Hid (i0.bytes = 1) := hz2
  clear hB hz2
  have qs : ∀ (w : World) (a : Option Addr) (n c : Nat), (binOp .eql 22 (.slice a n c) (.slice none 0 0)).run Try.prog w = .ok (.bool a.isNone) w := fun w a n c => Lib.run_eql_slice_nil w _ _ a n c 0 0 Try.underlying22
  go_enter Try.func13, Try.ntmps13
  go_wp2_with (at_make; refine wpList_make_full _ rfl (.tmp 8) (.tmp 8) 22 rfl w.heap.size 5 i0 _ 1 Try.underlying22 hi0 hz0 hz1 .i64 .i64 _ _ len rfl rfl (by omega) (by omega) (by rw [HZ.out]; omega) (by unfold maxLen; omega) (Nat.le_refl _) ?_; intro w1 hown hgrow; have HP1 : Hid (Cl w1 w.heap.size len f 0) := cl_made f hown ((toList_madeCells_one (.int .u8 0) (len * 1)).trans (by rw [Nat.mul_one])); have HB1 : Hid (Below w.heap.size w w1) := (Below.refl _ _).grown hgrow (Nat.le_refl _) (fun k h => by cases h); clear hown hgrow)
  go_loopw [4] (fun i wr => ∃ k : Nat, k ≤ len ∧ i = .int .i64 k ∧ Hid (Cl wr w.heap.size len f k) ∧ Hid (Below w.heap.size w wr)) (fun i _ => len - (intOf i).toNat)
  case atStart => exact ⟨0, Nat.zero_le _, rfl, HP1, HB1⟩
  case round =>
    obtain ⟨k, hk, rfl, HP, HB⟩ := hrel
    by_cases hlt : k < len
    · have c1 := (HB0.out.below HB.out hb k hlt).1
      obtain ⟨ys, y1, y2, y3⟩ := HP.out
      have c2 := y3.cell k (by omega)
      have f2 := y3.frozen k
      clear y1 y2 y3
      go_wp2
      go_roundw
      case rel => exact ⟨k + 1, by omega, by go_num, HP.out.store hlt _ rfl, HB.out.setCell (Nat.le_refl _) _⟩
      case measure => simp [intOf]; omega
    · go_wp2
      go_ret
      have e3 : k = len := by omega
      rw [e3] at HP
      exact ⟨rfl, HP.out, HB.out⟩

set_option maxRecDepth 100000 in
set_option maxHeartbeats 1000000 in
theorem used_any (b o len cap n : Nat) (f : Nat → Int) (w : World) (hB : BS w b o f len) (hl : len = 8 * n) (hn2 : (n : Int) ≤ 4096) :
    Calls Try.prog 14 #[.slice (some ⟨b, o, none⟩) len cap] w fun e w' => (∃ c : Nat, (c : Int) ≤ 4096 ∧ e = .returned (.int .i64 c)) ∧ w = w' := by
  have HB : Hid (BS w b o f len) := hB
  have HL : Hid (len = 8 * n) := hl
  have hd : (len : Int).tdiv 8 = (n : Int) := by rw [Int.tdiv_eq_ediv_of_nonneg (by omega)]; omega
  have hl2 : (len : Int) ≤ 1048576 := by omega
  clear hB hl
  go_enter Try.func14, Try.ntmps14
  go_wp2
  go_loop [3, 4] (fun c p => ∃ (k q : Nat), k ≤ n ∧ q ≤ k ∧ c = .int .i64 q ∧ p = .int .i64 k) (fun _ p => n - (intOf p).toNat)
  case atStart => exact ⟨0, 0, Nat.zero_le _, Nat.zero_le _, rfl, rfl⟩
  case round =>
    obtain ⟨k, q, hk, hq, rfl, rfl⟩ := hrel
    by_cases hlt : k < n
    · obtain ⟨v, hv⟩ : ∃ v, v = sv f k := ⟨_, rfl⟩
      have HV : Hid (v = sv f k) := hv
      clear hv
      by_cases h0 : v = 0
      · have h0b : (v == 0) = true := by simpa using h0
        clear h0
        go_wp2_with (go_at_call 11; refine (slot_val b o len cap k f v _ HB.out (by have := HL.out; omega) hl2 HV.out).mono ?_; rintro e w' ⟨rfl, rfl⟩)
        go_round
        case rel => exact ⟨k + 1, q, by omega, by omega, by go_num, by go_num⟩
        case measure => simp [intOf]; omega
      · have h0b : (v == 0) = false := by simpa using h0
        clear h0
        go_wp2_with (go_at_call 11; refine (slot_val b o len cap k f v _ HB.out (by have := HL.out; omega) hl2 HV.out).mono ?_; rintro e w' ⟨rfl, rfl⟩)
        go_round
        case rel => exact ⟨k + 1, q + 1, by omega, by omega, by go_num, by go_num⟩
        case measure => simp [intOf]; omega
    · go_wp2
      go_ret
      exact ⟨⟨q, by omega, rfl⟩, rfl⟩

set_option maxHeartbeats 400000 in
theorem bytes7_any (a : Option Addr) (len cap : Nat) (fp off : Int) (w : World) (hl : (len : Int) ≤ 9223372036854775807) :
    Calls Try.prog 7 #[.slice a len cap, .int .u64 fp, .int .i64 off] w fun e w' => e = .returned (.bool (decide ((len : Int) ≤ 1048576))) ∧ w = w' := by
  by_cases h : (1048576 : Int) < (len : Int)
  · have e : decide ((len : Int) ≤ 1048576) = false := by simp; omega
    rw [e]
    clear e
    go_enter Try.func7, Try.ntmps7
    go_wp2
    go_ret
    exact ⟨rfl, rfl⟩
  · have e : decide ((len : Int) ≤ 1048576) = true := by simp; omega
    rw [e]
    clear e
    go_enter Try.func7, Try.ntmps7
    go_wp2
    go_ret
    exact ⟨rfl, rfl⟩
set_option maxHeartbeats 400000 in
theorem bytes16_any (a : Option Addr) (len cap : Nat) (c fp off : Int) (w : World) (hl : (len : Int) ≤ 9223372036854775807) :
    Calls Try.prog 16 #[.slice a len cap, .int .i64 c, .int .u64 fp, .int .i64 off] w fun e w' => e = .returned (.bool (decide ((len : Int) ≤ 1048576))) ∧ w = w' := by
  by_cases h : (1048576 : Int) < (len : Int)
  · have e : decide ((len : Int) ≤ 1048576) = false := by simp; omega
    rw [e]
    clear e
    go_enter Try.func16, Try.ntmps16
    go_wp2
    go_ret
    exact ⟨rfl, rfl⟩
  · have e : decide ((len : Int) ≤ 1048576) = true := by simp; omega
    rw [e]
    clear e
    go_enter Try.func16, Try.ntmps16
    go_wp2
    go_ret
    exact ⟨rfl, rfl⟩
end Go.Proofs.Qxb6616288a
