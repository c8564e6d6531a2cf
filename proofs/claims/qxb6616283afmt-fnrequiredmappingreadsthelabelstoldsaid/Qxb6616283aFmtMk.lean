import Derived.Test.Qxb6616283aFmtMem
import Derived.Laws.CopyOwn
namespace Go.Proofs.Qxb6616283aFmt
open Go.RowKit Go.Maps

theorem infoE : (Tryf.prog.info? 45).map (fun i => (i.zero, i.size, i.bytes)) = some (some (.agg #[.string ⟨#[]⟩, .string ⟨#[]⟩, .int .u8 0]), 3, 40) := by kernel_rfl

/-- Block g: a row of len writes, the first k of them these. -/
def Part (w : World) (g len : Nat) (es : List Ent) (k : Nat) : Prop := ∃ cur : Array Value, w.heap[g]? = some (.cells cur 45 (0, 0)) ∧ cur.size = len * 3 ∧
  ∀ t, t < k → cur[t * 3]? = some (.string (es.getD t e0).key) ∧ cur[t * 3 + 1]? = some (.string (es.getD t e0).val) ∧ cur[t * 3 + 2]? = some (.int .u8 (es.getD t e0).kind)
theorem part_made {w : World} {base g n : Nat} {xs : List Value} (es : List Ent) (h : w.ownsRow base 45 3 (.slice (some ⟨g, 0, none⟩) n n) n xs) : Part w g n es 0 := by
  rcases h.2 with ⟨h', _⟩ | ⟨g', cap', cur, h', _, hg, _, _, hcs, _⟩
  · simp at h'
  · simp only [Value.slice.injEq, Option.some.injEq, Addr.mk.injEq, and_true, true_and] at h'
    obtain ⟨rfl, rfl⟩ := h'
    exact ⟨cur, hg, hcs, fun t ht => by omega⟩
theorem Part.lt {w : World} {g len k : Nat} {es : List Ent} (h : Part w g len es k) : g < w.heap.size := by
  obtain ⟨cur, hg, _⟩ := h
  exact (Array.getElem?_eq_some_iff.1 hg).1
theorem Part.has {w : World} {g len k : Nat} {es : List Ent} (h : Part w g len es k) (j : Nat) (hj : j < len * 3) : (∃ x, w.cell? ⟨g, j, none⟩ = some x) ∧ w.frozen? ⟨g, j, none⟩ = false := by
  obtain ⟨cur, hg, hs, _⟩ := h
  refine ⟨⟨cur[j], ?_⟩, frozen_of_row w g j cur 45 hg⟩
  rw [cell_of_row w g j cur 45 (0, 0) hg]
  exact Array.getElem?_eq_getElem (by omega)
/-- One write more laid into it. -/
theorem Part.store {w : World} {g len k : Nat} {es : List Ent} (h : Part w g len es k) (hk : k < len) (e : Ent) (he : es.getD k e0 = e) :
    Part (((w.setCell ⟨g, k * 3, none⟩ (.string e.key)).setCell ⟨g, k * 3 + 1, none⟩ (.string e.val)).setCell ⟨g, k * 3 + 2, none⟩ (.int .u8 e.kind)) g len es (k + 1) := by
  obtain ⟨cur, hg, hs, hp⟩ := h
  refine ⟨_, heap_setCell_same _ g _ _ 45 _ (heap_setCell_same _ g _ _ 45 _ (heap_setCell_same w g _ _ 45 _ hg)), by simpa using hs, fun t ht => ?_⟩
  rcases Nat.lt_or_ge t k with h1 | h1
  · obtain ⟨p0, p1, p2⟩ := hp t h1
    refine ⟨?_, ?_, ?_⟩
    · rw [Array.getElem?_setIfInBounds_ne (by omega), Array.getElem?_setIfInBounds_ne (by omega), Array.getElem?_setIfInBounds_ne (by omega)]; exact p0
    · rw [Array.getElem?_setIfInBounds_ne (by omega), Array.getElem?_setIfInBounds_ne (by omega), Array.getElem?_setIfInBounds_ne (by omega)]; exact p1
    · rw [Array.getElem?_setIfInBounds_ne (by omega), Array.getElem?_setIfInBounds_ne (by omega), Array.getElem?_setIfInBounds_ne (by omega)]; exact p2
  · obtain rfl : t = k := by omega
    rw [he]
    refine ⟨?_, ?_, ?_⟩
    · rw [Array.getElem?_setIfInBounds_ne (by omega), Array.getElem?_setIfInBounds_ne (by omega), Array.getElem?_setIfInBounds_self_of_lt (by omega)]
    · rw [Array.getElem?_setIfInBounds_ne (by omega), Array.getElem?_setIfInBounds_self_of_lt (by simp; omega)]
    · rw [Array.getElem?_setIfInBounds_self_of_lt (by simp; omega)]
theorem Part.drew {w : World} {g len k : Nat} {es : List Ent} (h : Part w g len es k) : Part w.drew g len es k := h
theorem Part.es {w : World} {g : Nat} {es : List Ent} (h : Part w g es.length es es.length) : ES w g 0 es := by
  obtain ⟨cur, hg, hs, hp⟩ := h
  intro i hi
  obtain ⟨p0, p1, p2⟩ := hp i hi
  refine ⟨?_, ?_, ?_⟩
  · rw [cell_of_row w g _ cur 45 (0, 0) hg, Nat.zero_add]; exact p0
  · rw [cell_of_row w g _ cur 45 (0, 0) hg, Nat.zero_add]; exact p1
  · rw [cell_of_row w g _ cur 45 (0, 0) hg, Nat.zero_add]; exact p2

theorem below3 {B g i : Nat} {w w' : World} (h : Below B w w') (hB : B ≤ g) (x y z : Value) : Below B w (((w'.setCell ⟨g, i, none⟩ x).setCell ⟨g, i + 1, none⟩ y).setCell ⟨g, i + 2, none⟩ z) :=
  ((h.setCell (by exact hB) _).setCell (by exact hB) _).setCell (by exact hB) _

set_option maxRecDepth 100000 in
set_option maxHeartbeats 400000 in
theorem clone_some (a : Addr) (len cap : Nat) (es : List Ent) (w : World) (hn : es.length = len) (hreach : len * 40 ≤ 140737488355328) (hA : At w (some a) es) :
    Calls Tryf.prog 8 #[.slice (some a) len cap] w fun e w' => e = .returned (.slice (some ⟨w.heap.size, 0, none⟩) len len) ∧ At w' (some ⟨w.heap.size, 0, none⟩) es ∧ Below w.heap.size w w' := by
  obtain ⟨i0, hi0, hz0, hz1, hz2⟩ := info_parts infoE
  have HA : Hid (At w (some a) es) := hA
  have HN : Hid (es.length = len) := hn
  have HZ : Hid (i0.bytes = 40) := hz2
  clear hA hn hz2
  have qs : ∀ (w : World) (a : Option Addr) (n c : Nat), (binOp .eql 22 (.slice a n c) (.slice none 0 0)).run Tryf.prog w = .ok (.bool a.isNone) w := fun w a n c => Lib.run_eql_slice_nil w _ _ a n c 0 0 Tryf.underlying22
  go_enter Tryf.func8, Tryf.ntmps8
  go_wp2_with (at_make; refine wpList_make_full _ rfl (.tmp 8) (.tmp 8) 22 rfl w.heap.size 45 i0 _ 3 Tryf.underlying22 hi0 hz0 hz1 .i64 .i64 _ _ len rfl rfl (by omega) (by omega) (by rw [HZ.out]; omega) (by unfold maxLen; omega) (Nat.le_refl _) ?_; intro w1 hown hgrow; have HP1 : Hid (Part w1 w.heap.size len es 0) := part_made es hown; have HB1 : Hid (Below w.heap.size w w1) := (Below.refl _ _).grown hgrow (Nat.le_refl _) (fun k h => by cases h); clear hown hgrow)
  go_loopw [4] (fun i wr => ∃ k : Nat, k ≤ len ∧ i = .int .i64 k ∧ Hid (Part wr w.heap.size len es k) ∧ Hid (Below w.heap.size w wr)) (fun i _ => len - (intOf i).toNat)
  case atStart => exact ⟨0, Nat.zero_le _, rfl, HP1, HB1⟩
  case round =>
    obtain ⟨k, hk, rfl, HP, HB⟩ := hrel
    by_cases hlt : k < len
    · obtain ⟨b, off, e1, hb, hE⟩ := HA.out (by rw [HN.out]; omega)
      obtain ⟨c1, c2, c3⟩ := (hE.below HB.out hb) k (by rw [HN.out]; exact hlt)
      have e2 : a = ⟨b, off, none⟩ := Option.some.inj e1
      clear hE e1
      subst e2
      obtain ⟨⟨x0, hx0⟩, f0⟩ := HP.out.has (k * 3) (by omega)
      obtain ⟨⟨x1, hx1⟩, f1⟩ := HP.out.has (k * 3 + 1) (by omega)
      obtain ⟨⟨x2, hx2⟩, f2⟩ := HP.out.has (k * 3 + 2) (by omega)
      go_wp2
      go_roundw
      case rel => exact ⟨k + 1, by omega, by go_num, HP.out.store hlt _ rfl, below3 HB.out (Nat.le_refl _) _ _ _⟩
      case measure => simp [intOf]; omega
    · go_wp2
      go_ret
      refine ⟨rfl, ?_, HB.out⟩
      have e3 : k = len := by omega
      intro _
      refine ⟨w.heap.size, 0, rfl, HP.out.lt, ?_⟩
      have h4 := HP.out
      rw [e3, ← HN.out] at h4
      exact h4.es

set_option maxHeartbeats 400000 in
theorem clone_none (len cap : Nat) (w : World) : Calls Tryf.prog 8 #[.slice none len cap] w fun e w' => e = .returned (.slice none 0 0) ∧ w = w' := by
  have qs : ∀ (w : World) (a : Option Addr) (n c : Nat), (binOp .eql 22 (.slice a n c) (.slice none 0 0)).run Tryf.prog w = .ok (.bool a.isNone) w := fun w a n c => Lib.run_eql_slice_nil w _ _ a n c 0 0 Tryf.underlying22
  go_enter Tryf.func8, Tryf.ntmps8
  go_wp2
  go_ret
  exact ⟨rfl, rfl⟩

/-- What a function hands back that makes a slice of writes. -/
def RetSl (w w' : World) (e : Ending) (len : Nat) (es : List Ent) : Prop := ∃ ao cap, e = .returned (.slice ao len cap) ∧ At w' ao es ∧ Below w.heap.size w w'

theorem clone_any (ao : Option Addr) (len cap : Nat) (es : List Ent) (w : World) (hn : es.length = len) (hreach : len * 40 ≤ 140737488355328) (hA : At w ao es) :
    Calls Tryf.prog 8 #[.slice ao len cap] w fun e w' => RetSl w w' e len es := by
  cases ao with
  | some a => exact (clone_some a len cap es w hn hreach hA).mono fun e w' ⟨h1, h2, h3⟩ => ⟨_, _, h1, h2, h3⟩
  | none =>
    have h0 : len = 0 := by
      rcases Nat.eq_zero_or_pos len with h | h
      · exact h
      · obtain ⟨b, off, e, _⟩ := hA (by omega)
        cases e
    subst h0
    exact (clone_none 0 cap w).mono fun e w' ⟨h1, h2⟩ => ⟨none, 0, h1, fun hp => by omega, h2 ▸ Below.refl _ _⟩

set_option maxRecDepth 100000 in
set_option maxHeartbeats 400000 in
theorem with_any (ao : Option Addr) (len cap : Nat) (es : List Ent) (key val : ByteArray) (w : World) (hn : es.length = len) (hreach : len * 40 ≤ 140737488355328) (hA : At w ao es) :
    Calls Tryf.prog 17 #[.slice ao len cap, .string key, .string val] w fun e w' => RetSl w w' e (len + 1) (es ++ [⟨key, val, 0⟩]) := by
  obtain ⟨i0, hi0, hz0, hz1, hz2⟩ := info_parts infoE
  obtain ⟨es2, hes2⟩ : ∃ l, l = es ++ [(⟨key, val, 0⟩ : Ent)] := ⟨_, rfl⟩
  have hl2 : es2.length = len + 1 := by rw [hes2]; simp [hn]
  have hg1 : ∀ k, k < len → es2.getD k e0 = es.getD k e0 := fun k hk => by
    rw [hes2]; simp [List.getD, List.getElem?_append_left (show k < es.length by omega)]
  have hg2 : es2.getD len e0 = ⟨key, val, 0⟩ := by
    rw [hes2, ← hn]; simp [List.getD]
  rw [← hes2]
  have HG1 : Hid (∀ k, k < len → es2.getD k e0 = es.getD k e0) := hg1
  have HG2 : Hid (es2.getD len e0 = ⟨key, val, 0⟩) := hg2
  have HL2 : Hid (es2.length = len + 1) := hl2
  clear hes2 hg1 hg2 hl2
  have HA : Hid (At w ao es) := hA
  have HN : Hid (es.length = len) := hn
  have HZ : Hid (i0.bytes = 40) := hz2
  clear hA hn hz2
  go_enter Tryf.func17, Tryf.ntmps17
  go_wp2_with (at_make; refine wpList_make_full _ rfl (.tmp 11) (.tmp 11) 22 rfl w.heap.size 45 i0 _ 3 Tryf.underlying22 hi0 hz0 hz1 .i64 .i64 _ _ (len + 1) rfl rfl (by omega) (by omega) (by rw [HZ.out]; omega) (by unfold maxLen; omega) (Nat.le_refl _) ?_; intro w1 hown hgrow; have HP1 : Hid (Part w1 w.heap.size (len + 1) es2 0) := part_made es2 hown; have HB1 : Hid (Below w.heap.size w w1) := (Below.refl _ _).grown hgrow (Nat.le_refl _) (fun k h => by cases h); clear hown hgrow)
  go_loopw [8] (fun i wr => ∃ k : Nat, k ≤ len ∧ i = .int .i64 k ∧ Hid (Part wr w.heap.size (len + 1) es2 k) ∧ Hid (Below w.heap.size w wr)) (fun i _ => len - (intOf i).toNat)
  case atStart => exact ⟨0, Nat.zero_le _, rfl, HP1, HB1⟩
  case round =>
    obtain ⟨k, hk, rfl, HP, HB⟩ := hrel
    obtain ⟨⟨x0, hx0⟩, f0⟩ := HP.out.has (k * 3) (by omega)
    obtain ⟨⟨x1, hx1⟩, f1⟩ := HP.out.has (k * 3 + 1) (by omega)
    obtain ⟨⟨x2, hx2⟩, f2⟩ := HP.out.has (k * 3 + 2) (by omega)
    by_cases hlt : k < len
    · obtain ⟨b, off, rfl, hb, hE⟩ := HA.out (by rw [HN.out]; omega)
      obtain ⟨c1, c2, c3⟩ := (hE.below HB.out hb) k (by rw [HN.out]; exact hlt)
      clear hE
      go_wp2
      go_roundw
      case rel => exact ⟨k + 1, by omega, by go_num, HP.out.store (by omega) _ (HG1.out k hlt), below3 HB.out (Nat.le_refl _) _ _ _⟩
      case measure => simp [intOf]; omega
    · have e3 : k = len := by omega
      subst e3
      go_wp2
      go_ret
      refine ⟨_, _, rfl, ?_, below3 HB.out (Nat.le_refl _) _ _ _⟩
      have h4 := HP.out.store (by omega) _ HG2.out
      intro _
      refine ⟨w.heap.size, 0, rfl, h4.lt, ?_⟩
      rw [← HL2.out] at h4
      exact h4.es

/-- How a label's value reads: a string's bytes, or something else. -/
def Rany (v : Value) : Option (DataW Unit × List MemPlace) :=
  match v with
  | .nilIface => some (.nil, [])
  | .iface t x => if t = 9 then (match x with | .string s => some (.lit (.string s.data.toList), []) | _ => none) else some (.nil, [])
  | _ => none

theorem dv_zero {e : Ent} (h : e.kind = 0) : dv e = .lit (.string e.val.data.toList) := if_pos h
theorem dv_other {e : Ent} (h : e.kind ≠ 0) : dv e = .nil := if_neg h

theorem keyed9 : Keyed Tryf.prog 9 := string_keyed Tryf.underlying9

set_option maxRecDepth 100000 in
set_option maxHeartbeats 1000000 in
theorem lval_any (en : Ent) (i : Int) (w : World) :
    Calls Tryf.prog 27 #[.agg #[.string en.key, .string en.val, .int .u8 en.kind], .int .i64 i] w fun e w' => ∃ v, e = .returned v ∧ Rany v = some (dv en, []) ∧ Below w.heap.size w w' := by
  have hmm := @run_makeMap Tryf.prog
  obtain ⟨s, v, q⟩ := en
  by_cases h0 : q = 0
  · rw [dv_zero (e := ⟨s, v, q⟩) h0]
    subst h0
    go_enter Tryf.func27, Tryf.ntmps27
    go_wp2
    go_ret
    exact ⟨_, rfl, rfl, (Below.refl _ _).alloc (Nat.le_refl _) _⟩
  · rw [dv_other (e := ⟨s, v, q⟩) h0]
    have h0' : (q == 0) = false := by simpa using h0
    by_cases h1 : q = 1
    · subst h1
      go_enter Tryf.func27, Tryf.ntmps27
      go_wp2
      go_ret
      exact ⟨_, rfl, rfl, (Below.refl _ _).alloc (Nat.le_refl _) _⟩
    · have h1' : (q == 1) = false := by simpa using h1
      by_cases h2 : q = 2
      · subst h2
        obtain ⟨w3, hup, _, hg3⟩ := (World.ownsMap_made (w.alloc (.cells #[.string s, .string v, .int .u8 2] 45)) Tryf.prog 9 (fun _ => some ((.nil : DataW Unit), []))).update keyed9 Tryf.underlying26 (by decide) (key := .string ⟨#[105, 110, 110, 101, 114]⟩) (val := .iface 9 (.string v)) (WideMaps.keyOf_string_mk Tryf.underlying9 (by decide)) rfl
        have hs : (w.alloc (.cells #[.string s, .string v, .int .u8 2] 45)).heap.size = w.heap.size + 1 := by simp
        rw [hs] at hup hg3
        clear hs
        go_enter Tryf.func27, Tryf.ntmps27
        go_wp2
        go_ret
        exact ⟨_, rfl, rfl, (((Below.refl _ _).alloc (Nat.le_refl _) _).alloc (by simp) _).grown hg3 (by simp; omega) (fun k h => by cases h; omega)⟩
      · have h2' : (q == 2) = false := by simpa using h2
        by_cases h3 : q = 3
        · subst h3
          go_enter Tryf.func27, Tryf.ntmps27
          go_wp2
          go_ret
          exact ⟨_, rfl, rfl, ((Below.refl _ _).alloc (Nat.le_refl _) _).alloc (by simp) _⟩
        · have h3' : (q == 3) = false := by simpa using h3
          by_cases h4 : q = 4
          · subst h4
            obtain ⟨w3, hup, _, hg3⟩ := (World.ownsMap_made (w.alloc (.cells #[.string s, .string v, .int .u8 4] 45)) Tryf.prog 9 (fun _ => some ((.nil : DataW Unit), []))).update keyed9 Tryf.underlying34 (by decide) (key := .string ⟨#[105, 110, 110, 101, 114]⟩) (val := .string v) (WideMaps.keyOf_string_mk Tryf.underlying9 (by decide)) rfl
            have hs : (w.alloc (.cells #[.string s, .string v, .int .u8 4] 45)).heap.size = w.heap.size + 1 := by simp
            rw [hs] at hup hg3
            clear hs
            go_enter Tryf.func27, Tryf.ntmps27
            go_wp2
            go_ret
            exact ⟨_, rfl, rfl, (((Below.refl _ _).alloc (Nat.le_refl _) _).alloc (by simp) _).grown hg3 (by simp; omega) (fun k h => by cases h; omega)⟩
          · have h4' : (q == 4) = false := by simpa using h4
            go_enter Tryf.func27, Tryf.ntmps27
            go_wp2
            go_ret
            exact ⟨_, rfl, rfl, (Below.refl _ _).alloc (Nat.le_refl _) _⟩
end Go.Proofs.Qxb6616283aFmt
