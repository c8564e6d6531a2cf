import Derived.Test.Qxb6616283aFmtLbl
import Derived.Deep.QuietTactic
import Derived.BigQuiet
namespace Go.Proofs.Qxb6616283aFmt
open Go.RowKit Go.Maps

/-- These writes lie in block b from off on, three cells each. -/
def ES (w : World) (b off : Nat) (es : List Ent) : Prop := ∀ i, i < es.length →
  w.cell? ⟨b, off + i * 3, none⟩ = some (.string (es.getD i e0).key) ∧ w.cell? ⟨b, off + i * 3 + 1, none⟩ = some (.string (es.getD i e0).val) ∧ w.cell? ⟨b, off + i * 3 + 2, none⟩ = some (.int .u8 (es.getD i e0).kind)
theorem ES.below {w w' : World} {B b off : Nat} {es : List Ent} (h : ES w b off es) (hb : Below B w w') (hB : b < B) : ES w' b off es := fun i hi =>
  ⟨(hb.cell (by exact hB)).trans (h i hi).1, (hb.cell (by exact hB)).trans (h i hi).2.1, (hb.cell (by exact hB)).trans (h i hi).2.2⟩

/-- A slice value that reads as these writes: its address is known where it is not empty. -/
def At (w : World) (ao : Option Addr) (es : List Ent) : Prop := 0 < es.length → ∃ b off, ao = some ⟨b, off, none⟩ ∧ b < w.heap.size ∧ ES w b off es
theorem At.below {w w' : World} {ao : Option Addr} {es : List Ent} (h : At w ao es) (hb : Below w.heap.size w w') : At w' ao es := fun hp => by
  obtain ⟨b, off, e, h1, h2⟩ := h hp
  exact ⟨b, off, e, Nat.lt_of_lt_of_le h1 hb.size, h2.below hb h1⟩

/-- The strings are strings, the kinds bytes. -/
def EOk (es : List Ent) : Prop := ∀ e ∈ es, e.key.size ≤ maxLen ∧ e.val.size ≤ maxLen ∧ 0 ≤ e.kind ∧ e.kind ≤ 255
theorem getD_mem (es : List Ent) (i : Nat) (h : i < es.length) : es.getD i e0 ∈ es := by
  simp [List.getD, List.getElem?_eq_getElem h]

theorem toList_data (s : ByteArray) : s.toList = s.data.toList := ByteArray.toList_eq s
theorem same_keys (a b : Ent) : (kl a).sameKey (kl b) = (a.key.toList == b.key.toList) := by
  rw [toList_data, toList_data]
  rfl

/-- Some bool is returned. -/
def RetBool (e : Ending) : Prop := ∃ r : Bool, e = .returned (.bool r)

set_option maxRecDepth 100000 in
set_option maxHeartbeats 400000 in
theorem big_any (ao : Option Addr) (len cap : Nat) (es : List Ent) (T0 : Int) (w : World) (hn : es.length = len) (hreach : len * 40 ≤ 140737488355328) (hA : At w ao es) :
    Calls Tryf.prog 7 #[.slice ao len cap, .int .i64 T0] w fun e w' => RetBool e ∧ Below w.heap.size w w' := by
  have HA : Hid (At w ao es) := hA
  have HN : Hid (es.length = len) := hn
  clear hA hn
  by_cases hbig : (4096 : Int) < (len : Int)
  · go_enter Tryf.func7, Tryf.ntmps7
    go_wp2
    go_ret
    exact ⟨⟨_, rfl⟩, Below.refl _ _⟩
  · by_cases hT1 : (1048576 : Int) < T0
    · go_enter Tryf.func7, Tryf.ntmps7
      go_wp2
      go_ret
      exact ⟨⟨_, rfl⟩, Below.refl _ _⟩
    · go_enter Tryf.func7, Tryf.ntmps7
      go_wp2
      go_loopw [5, 6] (fun t i wr => ∃ (k : Nat) (T : Int), k ≤ len ∧ i = .int .i64 k ∧ t = .int .i64 T ∧ Hid (Below w.heap.size w wr)) (fun _ i _ => len - (intOf i).toNat)
      case atStart => exact ⟨0, T0, Nat.zero_le _, rfl, rfl, Below.refl _ _⟩
      case round =>
        obtain ⟨k, T, hk, rfl, rfl, HB⟩ := hrel
        by_cases hlt : k < len
        · obtain ⟨b, off, rfl, hb, hE⟩ := (HA.out.below HB.out) (by rw [HN.out]; omega)
          obtain ⟨c1, c2, _⟩ := hE k (by rw [HN.out]; exact hlt)
          clear hE
          obtain ⟨s1, hs1⟩ : ∃ s, s = (es.getD k e0).key := ⟨_, rfl⟩
          obtain ⟨s2, hs2⟩ : ∃ s, s = (es.getD k e0).val := ⟨_, rfl⟩
          rw [← hs1] at c1
          rw [← hs2] at c2
          clear hs1 hs2
          go_wp2
          go_quiet (fail)
          go_wp2
          · go_ret
            exact ⟨⟨_, rfl⟩, below_drewN HB.out _⟩
          · go_roundw
            case rel => exact ⟨k + 1, _, by omega, by go_num, rfl, below_drewN HB.out _⟩
            case measure => simp [intOf]; omega
        · go_wp2
          go_ret
          exact ⟨⟨_, rfl⟩, HB.out⟩

/-- The keys of the writes between are others. -/
def NoSame (es : List Ent) (i j : Nat) : Prop := ∀ t, i < t → t < j → (kl (es.getD t e0)).sameKey (kl (es.getD i e0)) = false
theorem noSame_end {es : List Ent} {i : Nat} (h : NoSame es i es.length) : lastAt es i = true := by
  unfold lastAt
  rw [Option.isNone_iff_eq_none]
  refine lastOf_none_of fun e he => ?_
  obtain ⟨t, ht⟩ := List.getElem?_of_mem he
  rw [List.getElem?_drop] at ht
  have hlt := (List.getElem?_eq_some_iff.1 ht).1
  have := h (i + 1 + t) (by omega) hlt
  rw [show es.getD (i + 1 + t) e0 = e by simp [List.getD, ht]] at this
  exact this
theorem same_not_last {es : List Ent} {i j : Nat} (hij : i < j) (hj : j < es.length) (h : (kl (es.getD j e0)).sameKey (kl (es.getD i e0)) = true) : lastAt es i = false := by
  unfold lastAt
  cases hx : lastOf (es.drop (i + 1)) (kl (es.getD i e0)) with
  | some y => rfl
  | none =>
    have := lastOf_none hx (es.getD j e0) (by
      have e : es.getD j e0 = es[j] := by simp [List.getD, List.getElem?_eq_getElem hj]
      rw [e]
      refine List.mem_of_getElem? (i := j - (i + 1)) ?_
      rw [List.getElem?_drop, show i + 1 + (j - (i + 1)) = j by omega]
      exact List.getElem?_eq_getElem hj)
    rw [h] at this
    cases this

set_option maxRecDepth 100000 in
set_option maxHeartbeats 400000 in
theorem last_any (ao : Option Addr) (len cap i : Nat) (es : List Ent) (w : World) (hn : es.length = len) (hreach : len * 40 ≤ 140737488355328) (hA : At w ao es) (hi : i < len) :
    Calls Tryf.prog 25 #[.slice ao len cap, .int .i64 i] w fun e w' => e = .returned (.bool (lastAt es i)) ∧ Below w.heap.size w w' := by
  have HA : Hid (At w ao es) := hA
  have HN : Hid (es.length = len) := hn
  clear hA hn
  go_enter Tryf.func25, Tryf.ntmps25
  go_wp2
  go_loopw [5] (fun j wr => ∃ (k : Nat), i < k ∧ k ≤ len ∧ j = .int .i64 k ∧ Hid (NoSame es i k) ∧ Hid (Below w.heap.size w wr)) (fun j _ => len - (intOf j).toNat)
  case atStart => exact ⟨i + 1, by omega, by omega, by go_num, fun t h1 h2 => by omega, Below.refl _ _⟩
  case round =>
    obtain ⟨k, hik, hk, rfl, HS, HB⟩ := hrel
    by_cases hlt : k < len
    · obtain ⟨b, off, rfl, hb, hE⟩ := (HA.out.below HB.out) (by rw [HN.out]; omega)
      obtain ⟨c1, _, _⟩ := hE k (by rw [HN.out]; exact hlt)
      obtain ⟨d1, _, _⟩ := hE i (by rw [HN.out]; exact hi)
      clear hE
      obtain ⟨s1, hs1⟩ : ∃ s, s = (es.getD k e0).key := ⟨_, rfl⟩
      obtain ⟨s2, hs2⟩ : ∃ s, s = (es.getD i e0).key := ⟨_, rfl⟩
      rw [← hs1] at c1
      rw [← hs2] at d1
      have HQ : Hid ((kl (es.getD k e0)).sameKey (kl (es.getD i e0)) = (s1.toList == s2.toList)) := by
        rw [hs1, hs2]; exact same_keys _ _
      clear hs1 hs2
      go_wp2
      go_quiet (fail)
      go_wp2
      · go_ret
        have h1 : (s1.toList == s2.toList) = true := by simp_all
        exact ⟨by rw [same_not_last hik (by rw [HN.out]; exact hlt) (HQ.out.trans h1)]; rfl, below_drewN HB.out _⟩
      · have h1 : (s1.toList == s2.toList) = false := by simp_all
        go_roundw
        case rel => exact ⟨k + 1, by omega, by omega, by go_num, fun t h2 h3 => (by
          rcases Nat.lt_or_ge t k with h4 | h4
          · exact HS.out t h2 h4
          · rw [show t = k by omega]; exact HQ.out.trans h1), below_drewN HB.out _⟩
        case measure => simp [intOf]; omega
    · go_wp2
      go_ret
      exact ⟨by rw [noSame_end (by rw [HN.out, show len = k by omega]; exact HS.out)]; rfl, HB.out⟩

/-- The string in a label that is expected. -/
def expS (v : ByteArray) (kind : Int) : ByteArray := if kind = 0 then v else ⟨#[]⟩
set_option maxHeartbeats 400000 in
theorem exp_any (s v : ByteArray) (kind : Int) (w : World) :
    Calls Tryf.prog 26 #[.agg #[.string s, .string v, .int .u8 kind], .int .i64 0] w fun e w' => e = .returned (.tuple #[.bool (decide (kind = 0)), .string (expS v kind)]) ∧ Below w.heap.size w w' := by
  by_cases h0 : kind = 0
  · subst h0
    go_enter Tryf.func26, Tryf.ntmps26
    go_wp2
    go_region
    all_goals go_wp2
    all_goals go_ret2
    all_goals exact ⟨rfl, by first | exact ((Below.refl _ _).alloc (Nat.le_refl _) _).drew | exact ((Below.refl _ _).drew).alloc (Nat.le_refl _) _⟩
  · have h1 : (kind == 0) = false := by simpa using h0
    have h2 : decide (kind = 0) = false := decide_eq_false h0
    have h3 : expS v kind = ⟨#[]⟩ := if_neg h0
    rw [h2, h3]
    clear h2 h3
    go_enter Tryf.func26, Tryf.ntmps26
    go_wp2
    go_ret2
    exact ⟨rfl, (Below.refl _ _).alloc (Nat.le_refl _) _⟩
end Go.Proofs.Qxb6616283aFmt
