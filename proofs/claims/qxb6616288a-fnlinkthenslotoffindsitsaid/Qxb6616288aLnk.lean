import Derived.Test.Qxb6616288aPut
namespace Go.Proofs.Qxb6616288a
open Go.RowKit

set_option maxHeartbeats 400000 in
theorem count_any (g : Nat) (sl : Value) (c : Int) (w : World) (hS : Sh w g sl c) : Calls Try.prog 20 #[.pointer (some ⟨g, 0, none⟩)] w fun e w' => e = .returned (.int .i64 c) ∧ w = w' := by
  have c8 := hS.count
  clear hS
  go_enter Try.func20, Try.ntmps20
  go_wp2
  go_ret
  exact ⟨rfl, rfl⟩
set_option maxHeartbeats 400000 in
theorem table_any (g : Nat) (a : Option Addr) (len cap : Nat) (c : Int) (w : World) (hS : Sh w g (.slice a len cap) c) : Calls Try.prog 21 #[.pointer (some ⟨g, 0, none⟩)] w fun e w' => e = .returned (.slice a len cap) ∧ w = w' := by
  have c7 := hS.slots
  clear hS
  go_enter Try.func21, Try.ntmps21
  go_wp2
  go_ret
  exact ⟨rfl, rfl⟩

theorem Sh.bump {w : World} {h : Nat} {sl : Value} {c : Int} (s : Sh w h sl c) (d : Int) : Sh (w.setCell ⟨h, 8, none⟩ (.int .i64 d)) h sl d := by
  refine ⟨by have := s.lt; simpa [World.setCell] using this, (World.cell?_setCell_other w ⟨h, 8, none⟩ ⟨h, 7, none⟩ _ (by simp)).trans s.slots, World.cell?_setCell_same w _ _ s.count, ?_⟩
  rw [← s.free, World.frozen?_setCell]

theorem Row.other {w : World} {g h j : Nat} {xs : List Int} (r : Row w g xs) (hg : g ≠ h) (u : Value) : Row (w.setCell ⟨h, j, none⟩ u) g xs := by
  unfold Row at r ⊢
  rw [Below.heap_setCell _ _ _ _ (by simpa using hg), r]

set_option maxHeartbeats 4000000 in
set_option maxRecDepth 100000 in
theorem link_any (B h g len i : Nat) (ys : List Int) (fp off c : Int) (w : World) (hS : Sh w h (.slice (some ⟨g, 0, none⟩) len len) c) (hr : Row w g ys) (hy : ys.length = len) (hi : 8 * i + 8 ≤ len) (hl : (len : Int) ≤ 1048576)
    (hhg : h ≠ g) (hBg : B ≤ g) (hBh : B ≤ h) (f0 : 0 ≤ fp) (f1 : fp < 1073741824) (o0 : 0 ≤ off) (o1 : off < 4294967296) (c0 : 0 ≤ c) (c1 : c ≤ 1048576) :
    Calls Try.prog 30 #[.pointer (some ⟨h, 0, none⟩), .int .i64 i, .int .u64 fp, .int .i64 off] w fun e w' => e = .returned (.tuple #[]) ∧ Row w' g (put8 ys (8 * i) (wantI fp off)) ∧ Sh w' h (.slice (some ⟨g, 0, none⟩) len len) (c + 1) ∧ Below B w w' := by
  have HS : Hid (Sh w h (.slice (some ⟨g, 0, none⟩) len len) c) := hS
  have c7 := hS.slots
  have HR : Hid (Row w g ys) := hr
  have HY : Hid (ys.length = len) := hy
  obtain ⟨W, hW⟩ : ∃ W, W = wantI fp off := ⟨_, rfl⟩
  have HW : Hid (W = wantI fp off) := hW
  rw [← hW]
  clear hS hr hy hW
  go_enter Try.func30, Try.ntmps30
  go_wp2
  go_region_held3 (fun w' => w'.cell? ⟨h, 7, none⟩ = some (.slice (some ⟨g, 0, none⟩) len len)) (go_keep) ((first
    | (go_at_call 32; refine (slotFor_any fp off _ f0 f1 o0 o1).mono ?_; rw [← HW.out]; rintro e w' ⟨rfl, rfl⟩)
    | (go_at_call 36; refine (put_any g len len i ys W _ (by exact HR.out) HY.out hi (Int.le_refl _) hl).mono ?_; rintro e w2 ⟨rfl, hR2, hK2⟩; have HR2 : Hid (Row w2 g (put8 ys (8 * i) W)) := hR2; have HK2 : Hid (Kept g w w2) := (Kept.of (Below.refl _ w).drew).trans hK2; have HS2 : Hid (Sh w2 h (.slice (some ⟨g, 0, none⟩) len len) c) := HS.out.kept HK2.out hhg; have k7 := HS2.out.slots; have k8 := HS2.out.count; have kf := HS2.out.free; clear hR2 hK2)))
  go_wp2
  go_end0
  refine ⟨rfl, HR2.out.other (Ne.symm hhg) _, ?_, ?_⟩
  · have h9 := HS2.out.bump (c + 1)
    exact h9
  · exact (Kept.below (Below.refl _ _) HK2.out hBg (Nat.le_trans hBh (Nat.le_of_lt HS.out.lt))).setCell hBh _

set_option maxHeartbeats 400000 in
theorem zzlink_any (B h g len i : Nat) (ys : List Int) (fp off c : Int) (w : World) (hS : Sh w h (.slice (some ⟨g, 0, none⟩) len len) c) (hr : Row w g ys) (hy : ys.length = len) (hi : 8 * i + 8 ≤ len) (hl : (len : Int) ≤ 1048576)
    (hhg : h ≠ g) (hBg : B ≤ g) (hBh : B ≤ h) (f0 : 0 ≤ fp) (f1 : fp < 1073741824) (o0 : 0 ≤ off) (o1 : off < 4294967296) (c0 : 0 ≤ c) (c1 : c ≤ 1048576) :
    Calls Try.prog 19 #[.pointer (some ⟨h, 0, none⟩), .int .i64 i, .int .u64 fp, .int .i64 off] w fun e w' => e = .returned (.tuple #[]) ∧ Row w' g (put8 ys (8 * i) (wantI fp off)) ∧ Sh w' h (.slice (some ⟨g, 0, none⟩) len len) (c + 1) ∧ Below B w w' := by
  have H : Hid (∀ w', w' = w → Calls Try.prog 30 #[.pointer (some ⟨h, 0, none⟩), .int .i64 i, .int .u64 fp, .int .i64 off] w' fun e w' => e = .returned (.tuple #[]) ∧ Row w' g (put8 ys (8 * i) (wantI fp off)) ∧ Sh w' h (.slice (some ⟨g, 0, none⟩) len len) (c + 1) ∧ Below B w w') := fun w' e => e ▸ link_any B h g len i ys fp off c w hS hr hy hi hl hhg hBg hBh f0 f1 o0 o1 c0 c1
  clear hS hr hy hi hl hhg hBg hBh f0 f1 o0 o1 c0 c1
  go_enter Try.func19, Try.ntmps19
  go_wp2_with (go_at_call 30; refine (H.out _ rfl).mono ?_; rintro e w' ⟨rfl, hP⟩; have HP : Hid (_ ∧ _) := hP; clear hP)
  go_end0
  exact ⟨rfl, HP.out⟩
end Go.Proofs.Qxb6616288a
