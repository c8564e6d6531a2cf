import Derived.Test.Qxb6616254aDoorRows
import Derived.WalkKit
import Derived.WalkSpells
import Derived.WalkLawsBesides
namespace Go.Proofs.Qxb6616254aDoor
open Go.RowKit

def nmL (a : Nat) : List UInt8 :=
  match a with
  | 1 => [105, 110, 97, 99, 116, 105, 118, 101]
  | 2 => [102, 111, 114, 119, 97, 114, 100, 105, 110, 103]
  | 3 => [116, 114, 97, 102, 102, 105, 99, 84, 121, 112, 101, 70, 105, 108, 116, 101, 114, 101, 100]
  | 4 => [97, 108, 108, 84, 114, 97, 102, 102, 105, 99, 70, 105, 108, 116, 101, 114, 101, 100]
  | 5 => [115, 104, 117, 116, 100, 111, 119, 110]
  | _ => []
def nm (a : Nat) : ByteArray := ⟨(nmL a).toArray⟩

set_option maxHeartbeats 400000 in
theorem string_any (a : Nat) (w : World) (h1 : 1 ≤ a) (h5 : a ≤ 5) (hc : ∀ i : Nat, 1 ≤ i → i ≤ 5 → w.cell? ⟨0, i, none⟩ = some (.string (nm i))) :
    Calls Tryd.prog 4 #[.int .i64 a] w fun e w' => e = .returned (.string (nm a)) ∧ w = w' := by
  have hca := hc a h1 h5
  clear hc
  go_enter Tryd.func4, Tryd.ntmps4
  go_wp2
  go_ret
  exact ⟨rfl, rfl⟩

def letter (c : UInt8) : Prop := (97 ≤ (c.toNat : Int) ∧ (c.toNat : Int) ≤ 122) ∨ (65 ≤ (c.toNat : Int) ∧ (c.toNat : Int) ≤ 90)

set_option maxHeartbeats 400000 in
theorem isName_any (s : ByteArray) (w : World) (hs : s.size ≤ maxLen) (h0 : 0 < s.size) (hf : 97 ≤ (s[0].toNat : Int) ∧ (s[0].toNat : Int) ≤ 122)
    (hall : ∀ k (h : k < s.size), letter s[k]) :
    Calls Tryd.prog 5 #[.string s] w fun e w' => e = .returned (.bool true) ∧ w = w' := by
  unfold maxLen at hs
  have Hall : Hid (∀ k (h : k < s.size), letter s[k]) := hall
  clear hall
  obtain ⟨hf1, hf2⟩ := hf
  go_enter Tryd.func5, Tryd.ntmps5
  go_wp2
  go_loop [3] (fun i => ∃ k : Nat, k ≤ s.size ∧ i = .int .i64 k) (fun i => s.size - (intOf i).toNat)
  case atStart => exact ⟨0, Nat.zero_le _, rfl⟩
  case round =>
    obtain ⟨k, hk, rfl⟩ := hrel
    by_cases hlt : k < s.size
    · go_wp2
      all_goals first
        | (go_round
           case rel => exact ⟨k + 1, by omega, by go_num⟩
           case measure => simp [intOf]; omega)
        | (exfalso
           have hl := Hall.out k hlt
           unfold letter at hl
           try simp only [Bool.not_eq_true', decide_eq_false_iff_not] at *
           omega)
    · go_wp2
      go_ret
      exact ⟨rfl, rfl⟩

theorem nm_ok (a : Nat) (h1 : 1 ≤ a) (h5 : a ≤ 5) : (nm a).size ≤ 20 ∧ ∃ h0 : 0 < (nm a).size, (97 ≤ ((nm a)[0].toNat : Int) ∧ ((nm a)[0].toNat : Int) ≤ 122) ∧ ∀ k (h : k < (nm a).size), letter (nm a)[k] := by
  obtain rfl | rfl | rfl | rfl | rfl : a = 1 ∨ a = 2 ∨ a = 3 ∨ a = 4 ∨ a = 5 := by omega
  all_goals
    refine ⟨by decide, by decide, by decide, ?_⟩
    unfold letter
    decide

theorem isName_nm (a : Nat) (h1 : 1 ≤ a) (h5 : a ≤ 5) (w : World) : Calls Tryd.prog 5 #[.string (nm a)] w fun e w' => e = .returned (.bool true) ∧ w = w' := by
  obtain ⟨hs, h0, hf, hl⟩ := nm_ok a h1 h5
  exact isName_any (nm a) w (by unfold maxLen; omega) h0 hf hl

theorem nm_inj (a b : Nat) (h1 : 1 ≤ a) (h5 : a ≤ 5) (k1 : 1 ≤ b) (k5 : b ≤ 5) : (nm a = nm b) ↔ a = b := by
  refine ⟨fun h => ?_, fun h => by rw [h]⟩
  obtain rfl | rfl | rfl | rfl | rfl : a = 1 ∨ a = 2 ∨ a = 3 ∨ a = 4 ∨ a = 5 := by omega
  all_goals
    obtain rfl | rfl | rfl | rfl | rfl : b = 1 ∨ b = 2 ∨ b = 3 ∨ b = 4 ∨ b = 5 := by omega
    all_goals first
      | rfl
      | (exfalso; revert h; decide)

set_option maxHeartbeats 400000 in
theorem law_in (a b : Nat) (w : World) (h1 : 1 ≤ a) (h5 : a ≤ 5) (k1 : 1 ≤ b) (k5 : b ≤ 5) (hc : ∀ i : Nat, 1 ≤ i → i ≤ 5 → w.cell? ⟨0, i, none⟩ = some (.string (nm i))) :
    Calls Tryd.prog 3 #[.int .i64 a, .int .i64 b] w fun e w' => e = .returned (.bool true) ∧ w = w' := by
  have Hc : Hid (∀ i : Nat, 1 ≤ i → i ≤ 5 → w.cell? ⟨0, i, none⟩ = some (.string (nm i))) := hc
  clear hc
  go_enter Tryd.func3, Tryd.ntmps3
  go_wp2_with (first
    | (go_at_call 4; refine (string_any _ _ (by assumption) (by assumption) Hc.out).mono ?_; rintro e w' ⟨rfl, rfl⟩)
    | (go_at_call 5; refine (isName_nm _ (by assumption) (by assumption) _).mono ?_; rintro e w' ⟨rfl, rfl⟩))
  go_ret
  have e : ((((a : Int) == (b : Int)) == ((nm a).toList == (nm b).toList))) = true := by
    have hi := nm_inj a b h1 h5 k1 k5
    rw [beq_iff_eq, Bool.eq_iff_iff, beq_iff_eq, beq_iff_eq]
    constructor
    · intro h; rw [show a = b by omega]
    · intro h
      have h2 : nm a = nm b := by
        have e1 : ∀ x : Nat, (nm x).toList = nmL x := fun x => by simp [nm]
        rw [e1, e1] at h
        unfold nm
        rw [h]
      have := hi.1 h2
      omega
  exact ⟨by rw [e]; rfl, rfl⟩

set_option maxHeartbeats 400000 in
theorem law_out (a b : Int) (w : World) (h : a < 1 ∨ 5 < a ∨ b < 1 ∨ 5 < b) :
    Calls Tryd.prog 3 #[.int .i64 a, .int .i64 b] w fun e w' => e = .returned (.bool true) ∧ w = w' := by
  by_cases h1 : a < 1
  · clear h
    go_enter Tryd.func3, Tryd.ntmps3
    go_wp2
    go_ret
    exact ⟨rfl, rfl⟩
  · by_cases h2 : 5 < a
    · clear h
      go_enter Tryd.func3, Tryd.ntmps3
      go_wp2
      go_ret
      exact ⟨rfl, rfl⟩
    · by_cases h3 : b < 1
      · clear h
        go_enter Tryd.func3, Tryd.ntmps3
        go_wp2
        go_ret
        exact ⟨rfl, rfl⟩
      · have h4 : 5 < b := by omega
        clear h
        go_enter Tryd.func3, Tryd.ntmps3
        go_wp2
        go_ret
        exact ⟨rfl, rfl⟩

theorem law_any (a b : Int) (w : World) (hc : ∀ i : Nat, 1 ≤ i → i ≤ 5 → w.cell? ⟨0, i, none⟩ = some (.string (nm i))) :
    Calls Tryd.prog 3 #[.int .i64 a, .int .i64 b] w fun e w' => e = .returned (.bool true) ∧ w = w' := by
  by_cases h : a < 1 ∨ 5 < a ∨ b < 1 ∨ 5 < b
  · exact law_out a b w h
  · obtain ⟨x, rfl⟩ : ∃ x : Nat, a = x := ⟨a.toNat, by omega⟩
    obtain ⟨y, rfl⟩ : ∃ y : Nat, b = y := ⟨b.toNat, by omega⟩
    exact law_in x y w (by omega) (by omega) (by omega) (by omega) hc
end Go.Proofs.Qxb6616254aDoor
