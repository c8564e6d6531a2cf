import Derived.Test.Qxb6616265aSwp
import Derived.Laws.CopyOwn
namespace Go.Proofs.Qxb6616265a
open Go.RowKit

theorem info9 : (Try.prog.info? 9).map (fun i => (i.zero, i.size, i.bytes)) = some (some (.string ⟨#[]⟩), 1, 16) := by kernel_rfl

/-- The argument h: a slice of these strings in old memory. -/
def Arg (w : World) (b off : Nat) (xs : List ByteArray) : Prop := ∀ t, t < xs.length → w.cell? ⟨b, off + t, none⟩ = some (.string (xs.getD t ByteArray.empty))

/-- Some bool is returned. -/
def RetBool (e : Ending) : Prop := ∃ r : Bool, e = .returned (.bool r)

set_option maxHeartbeats 400000 in
theorem zzBytes8 (b off len cap : Nat) (xs : List ByteArray) (x y : Value) (w : World) (hn : xs.length = len) (hreach : len * 16 ≤ 140737488351232) (hA : Arg w b off xs) :
    Calls Try.prog 8 #[.slice (some ⟨b, off, none⟩) len cap, x, y] w fun e w' => RetBool e ∧ w = w' := by
  have HA : Hid (Arg w b off xs) := hA
  have HN : Hid (xs.length = len) := hn
  clear hA hn
  by_cases hbig : (1048576 : Int) < (len : Int)
  · go_enter Try.func8, Try.ntmps8
    go_wp2
    go_ret
    exact ⟨⟨_, rfl⟩, rfl⟩
  · go_enter Try.func8, Try.ntmps8
    go_wp2
    go_loop [7, 8] (fun t i => ∃ k T : Nat, k ≤ len ∧ i = .int .i64 k ∧ t = .int .i64 T ∧ T ≤ 1048576) (fun _ i => len - (intOf i).toNat)
    case atStart => exact ⟨0, len, Nat.zero_le _, rfl, rfl, by omega⟩
    case round =>
      obtain ⟨k, T, hk, rfl, rfl, hT⟩ := hrel
      by_cases hlt : k < len
      · have hc := HA.out k (by rw [HN.out]; exact hlt)
        obtain ⟨s, hs⟩ : ∃ s, s = xs.getD k ByteArray.empty := ⟨_, rfl⟩
        rw [← hs] at hc
        clear hs
        go_wp2
        · go_ret
          exact ⟨⟨_, rfl⟩, rfl⟩
        · go_ret
          exact ⟨⟨_, rfl⟩, rfl⟩
        · go_round
          case rel => exact ⟨k + 1, T + s.size, by omega, by go_num, by go_num, by omega⟩
          case measure => simp [intOf]; omega
      · go_wp2
        go_ret
        exact ⟨⟨_, rfl⟩, rfl⟩

set_option maxHeartbeats 400000 in
theorem zzBytes10 (b off len cap : Nat) (xs : List ByteArray) (x y : Value) (w : World) (hn : xs.length = len) (hreach : len * 16 ≤ 140737488351232) (hA : Arg w b off xs) :
    Calls Try.prog 10 #[.slice (some ⟨b, off, none⟩) len cap, x, y] w fun e w' => RetBool e ∧ w = w' := by
  have HA : Hid (Arg w b off xs) := hA
  have HN : Hid (xs.length = len) := hn
  clear hA hn
  by_cases hbig : (1048576 : Int) < (len : Int)
  · go_enter Try.func10, Try.ntmps10
    go_wp2
    go_ret
    exact ⟨⟨_, rfl⟩, rfl⟩
  · go_enter Try.func10, Try.ntmps10
    go_wp2
    go_loop [7, 8] (fun t i => ∃ k T : Nat, k ≤ len ∧ i = .int .i64 k ∧ t = .int .i64 T ∧ T ≤ 1048576) (fun _ i => len - (intOf i).toNat)
    case atStart => exact ⟨0, len, Nat.zero_le _, rfl, rfl, by omega⟩
    case round =>
      obtain ⟨k, T, hk, rfl, rfl, hT⟩ := hrel
      by_cases hlt : k < len
      · have hc := HA.out k (by rw [HN.out]; exact hlt)
        obtain ⟨s, hs⟩ : ∃ s, s = xs.getD k ByteArray.empty := ⟨_, rfl⟩
        rw [← hs] at hc
        clear hs
        go_wp2
        · go_ret
          exact ⟨⟨_, rfl⟩, rfl⟩
        · go_ret
          exact ⟨⟨_, rfl⟩, rfl⟩
        · go_round
          case rel => exact ⟨k + 1, T + s.size, by omega, by go_num, by go_num, by omega⟩
          case measure => simp [intOf]; omega
      · go_wp2
        go_ret
        exact ⟨⟨_, rfl⟩, rfl⟩

/-- What make([]T, n) leaves: the row, whole. -/
theorem row_of_owns {w : World} {base g n : Nat} {xs : List Value} (h : w.ownsRow base 9 1 (.slice (some ⟨g, 0, none⟩) n n) n xs) : w.heap[g]? = some (.cells xs.toArray 9 (0, 0)) := by
  rcases h.2 with ⟨h', _⟩ | ⟨g', cap', cur, h', _, hg, _, _, hcs, htake⟩
  · simp at h'
  · simp only [Value.slice.injEq, Option.some.injEq, Addr.mk.injEq, and_true, true_and] at h'
    obtain ⟨rfl, rfl⟩ := h'
    rw [hg]
    have e : cur.toList = xs := by rw [← htake, List.take_of_length_le (by simp; omega)]
    rw [← e]

end Go.Proofs.Qxb6616265a
