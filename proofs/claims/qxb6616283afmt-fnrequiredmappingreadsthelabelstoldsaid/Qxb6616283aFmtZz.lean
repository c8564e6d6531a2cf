import Derived.Test.Qxb6616283aFmtMem
namespace Go.Proofs.Qxb6616283aFmt
open Go.RowKit Go.Maps

set_option maxRecDepth 100000 in
set_option maxHeartbeats 1000000 in
theorem zz18_any (file : ByteArray) (sh : Value) (ao : Option Addr) (len cap : Nat) (es : List Ent) (w : World) (hn : es.length = len) (hreach : len * 40 ≤ 140737488355328) (hA : At w ao es) :
    Calls Tryf.prog 18 #[.string file, .slice ao len cap, sh] w fun e w' => RetBool e ∧ Below w.heap.size w w' := by
  have HA : Hid (At w ao es) := hA
  have HN : Hid (es.length = len) := hn
  clear hA hn
  by_cases h1 : (1048576 : Int) < (file.size : Int)
  · go_enter Tryf.func18, Tryf.ntmps18
    go_wp2
    go_ret
    exact ⟨⟨_, rfl⟩, Below.refl _ _⟩
  by_cases h3 : (1048576 : Int) < (len : Int)
  · go_enter Tryf.func18, Tryf.ntmps18
    go_wp2
    go_ret
    exact ⟨⟨_, rfl⟩, Below.refl _ _⟩
  by_cases h4 : (1048576 : Int) < (file.size : Int) + (len : Int)
  · go_enter Tryf.func18, Tryf.ntmps18
    go_wp2
    go_ret
    exact ⟨⟨_, rfl⟩, Below.refl _ _⟩
  go_enter Tryf.func18, Tryf.ntmps18
  go_wp2
  go_loopw [7, 8] (fun t i wr => ∃ (k : Nat) (T : Int), k ≤ len ∧ i = .int .i64 k ∧ t = .int .i64 T ∧ Hid (Below w.heap.size w wr)) (fun _ i _ => len - (intOf i).toNat)
  case atStart => exact ⟨0, _, Nat.zero_le _, rfl, rfl, Below.refl _ _⟩
  case round =>
    obtain ⟨k, T, hk, rfl, rfl, HB⟩ := hrel
    by_cases hlt : k < len
    · obtain ⟨b, off, rfl, hb, hE⟩ := (HA.out.below HB.out) (by rw [HN.out]; omega)
      obtain ⟨c1, c2, _⟩ := hE k (by rw [HN.out]; exact hlt)
      clear hE
      obtain ⟨s1, hs1⟩ : ∃ s, s = (es.getD k e0).key := ⟨_, rfl⟩
      obtain ⟨s2, hs2⟩ : ∃ s, s = (es.getD k e0).val := ⟨_, rfl⟩
      rw [← hs1] at c1
      rw [← hs2] at c2
      clear hs1 hs2
      go_wp2
      all_goals first
        | (go_ret; exact ⟨⟨_, rfl⟩, HB.out⟩)
        | (go_roundw
           case rel => exact ⟨k + 1, _, by omega, by go_num, rfl, HB⟩
           case measure => simp [intOf]; omega)
    · go_wp2
      all_goals (go_ret; exact ⟨⟨_, rfl⟩, HB.out⟩)

end Go.Proofs.Qxb6616283aFmt
