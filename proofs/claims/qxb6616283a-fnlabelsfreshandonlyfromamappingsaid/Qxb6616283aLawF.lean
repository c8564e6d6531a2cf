import Derived.Test.Qxb6616283aAre
import Derived.Test.Qxb6616283aZz
namespace Go.Proofs.Qxb6616283a
open Go.RowKit Go.Maps

set_option maxHeartbeats 400000 in
theorem shape0_any (ao : Option Addr) (len cap b n : Nat) (es : List Ent) (L : DataW Unit) (w : World) (hn : es.length = len) (hreach : len * 40 ≤ 140737488355328) (hok : EOk es) (hA : At w ao es) (hM : w.ownsMap Try.prog 9 Rstr b n L) (hL : Lab L es) :
    Calls Try.prog 13 #[.map (some b), .slice ao len cap, .int .u8 0] w fun e w' => e = .returned (.bool true) ∧ Below w.heap.size w w' := by
  have H : Hid (∀ w', w' = w → Calls Try.prog 11 #[.map (some b), .slice ao len cap, .int .i64 0] w' fun e w' => e = .returned (.bool true) ∧ Below w.heap.size w w') := fun w' e => e ▸ are_any ao len cap b n es L w hn hreach hok hA hM hL
  clear hn hreach hok hA hM hL
  go_enter Try.func13, Try.ntmps13
  go_wp2_with (go_at_call 11; refine (H.out _ rfl).mono ?_; rintro e w' ⟨rfl, hB⟩)
  go_ret
  exact ⟨rfl, hB⟩

set_option maxHeartbeats 400000 in
theorem shapeN_any (v : Value) (b n : Nat) (q : Int) (w : World) (hq : q ≠ 0) (hM : w.ownsMap Try.prog 9 Rstr b n (.map [])) :
    Calls Try.prog 13 #[.map (some b), v, .int .u8 q] w fun e w' => e = .returned (.bool true) ∧ w = w' := by
  have qm : ∀ (w : World) (r : Option Nat), (binOp .neq 31 (.map r) (.map none)).run Try.prog w = .ok (.bool (!r.isNone)) w := fun w r => run_neq_map_nil w _ _ _ r Try.underlying31
  have q0 : (q == 0) = false := by simpa using hq
  have hln : ∀ ty, (Builtin.len_ #[31] ty #[.map (some b)]).run Try.prog w = .ok (.int .i64 0) w := fun ty => hM.len Try.underlying31 ty
  clear hM hq
  go_enter Try.func13, Try.ntmps13
  go_wp2
  go_ret
  exact ⟨rfl, rfl⟩

abbrev sChanged : ByteArray := ⟨#[99, 104, 97, 110, 103, 101, 100, 32, 98, 121, 32, 116, 104, 101, 32, 99, 97, 108, 108, 101, 114]⟩

set_option maxRecDepth 100000 in
set_option maxHeartbeats 1000000 in
theorem law4_zero (file key : ByteArray) (line : Int) (ao : Option Addr) (len cap : Nat) (es : List Ent) (w : World) (hn : es.length = len) (hreach : len * 40 ≤ 140737488355328) (hok : EOk es) (hA : At w ao es) (hks : key.size ≤ maxLen) (hf : ¬ (1048576 : Int) < (file.size : Int)) (hk : ¬ (1048576 : Int) < (key.size : Int)) :
    Calls Try.prog 4 #[.string file, .int .i64 line, .slice ao len cap, .int .u8 0, .string key] w fun e w' => e = .returned (.bool true) ∧ Below w.heap.size w w' := by
  have HA : Hid (At w ao es) := hA
  have HN : Hid (es.length = len) := hn
  have HO : Hid (EOk es) := hok
  have HK : Hid (key.size ≤ maxLen) := hks
  clear hA hn hok hks
  go_enter Try.func4, Try.ntmps4
  go_wp2_with fail
  refine (zz12_any file key _ _ ao len cap es _ HN.out hreach HA.out).mono ?_
  rintro e w1 ⟨⟨r, rfl⟩, hB1⟩
  have HB1 : Hid (Below w.heap.size w w1) := hB1
  clear hB1
  cases r with
  | false =>
    go_wp2
    go_ret
    exact ⟨rfl, HB1.out⟩
  | true =>
    go_wp2_with fail
    refine (big_any ao len cap es _ _ HN.out hreach (HA.out.below HB1.out)).mono ?_
    rintro e w2 ⟨⟨r, rfl⟩, hB2⟩
    have HB2 : Hid (Below w.heap.size w w2) := HB1.out.trans (hB2.mono HB1.out.size)
    clear hB2
    cases r with
    | true =>
      go_wp2
      go_ret
      exact ⟨rfl, HB2.out⟩
    | false =>
      go_wp2_with fail
      refine (clone_any ao len cap es _ HN.out hreach (HA.out.below HB2.out)).mono ?_
      rintro e w3 ⟨ao3, cap3, rfl, hA3, hB3⟩
      have HA3 : Hid (At w3 ao3 es) := hA3
      have HB3 : Hid (Below w.heap.size w w3) := HB2.out.trans (hB3.mono HB2.out.size)
      clear hB3 hA3
      go_wp2_with fail
      refine (body0 ao3 len cap3 es _ HN.out hreach HO.out HA3.out).mono ?_
      rintro e w4 ⟨rv, lb, rfl, hF4, hM4, hB4⟩
      have HA4 : Hid (At w4 ao3 es) := HA3.out.below hB4
      have HB4 : Hid (Below w.heap.size w w4) := HB3.out.trans (hB4.mono HB3.out.size)
      have HF4 : Hid (FieldIs w4 (.map rv) (.iface 27 (.map (some lb)))) := hF4
      have HM4 : Hid (w4.ownsMap Try.prog 9 Rany lb len (LM es)) := hM4
      clear hB4 hF4 hM4
      have z5 : (w4.alloc (.cells #[.string file, .int .i64 line, .map rv] 30)).heap.size = w4.heap.size + 1 := by simp
      have b5 : Below w4.heap.size w4 (w4.alloc (.cells #[.string file, .int .i64 line, .map rv] 30)) := (Below.refl _ _).alloc (Nat.le_refl _) _
      have HZ5 : Hid ((w4.alloc (.cells #[.string file, .int .i64 line, .map rv] 30)).heap.size = w4.heap.size + 1) := z5
      have HB5 : Hid (Below w.heap.size w (w4.alloc (.cells #[.string file, .int .i64 line, .map rv] 30))) := HB4.out.trans (b5.mono HB4.out.size)
      have HA5 : Hid (At (w4.alloc (.cells #[.string file, .int .i64 line, .map rv] 30)) ao3 es) := HA4.out.below b5
      have HH5 : Hid ((w4.alloc (.cells #[.string file, .int .i64 line, .map rv] 30)).heap[w4.heap.size]? = some (.cells #[.string file, .int .i64 line, .map rv] 30 (0, 0))) := heap_alloc_new w4 _
      have HF5 : Hid (FieldIs (w4.alloc (.cells #[.string file, .int .i64 line, .map rv] 30)) (.map rv) (.iface 27 (.map (some lb)))) := HF4.out.below b5
      have HM5 : Hid ((w4.alloc (.cells #[.string file, .int .i64 line, .map rv] 30)).ownsMap Try.prog 9 Rany lb len (LM es)) := HM4.out.alloc _
      clear z5 b5
      go_wp2_with fail
      refine (labels_map file line (.map rv) lb len es _ HF5.out HM5.out (by omega)).mono ?_
      rintro e w6 ⟨b1, L1, rfl, hb1, hM6, hL6, hB6⟩
      rw [HZ5.out] at hb1
      have HB6 : Hid (Below (w4.heap.size + 1) (w4.alloc (.cells #[.string file, .int .i64 line, .map rv] 30)) w6) := HZ5.out ▸ hB6
      have HM6 : Hid (w6.ownsMap Try.prog 9 Rstr b1 len L1) := hM6
      have HA6 : Hid (At w6 ao3 es) := HA5.out.below hB6
      have HL6 : Hid (Lab L1 es) := hL6
      clear hM6 hB6 hL6
      go_wp2_with fail
      refine (shape0_any ao3 len cap3 b1 len es L1 _ HN.out hreach HO.out HA6.out HM6.out HL6.out).mono ?_
      rintro e w7 ⟨rfl, hB7⟩
      have HB7 : Hid (Below (w4.heap.size + 1) (w4.alloc (.cells #[.string file, .int .i64 line, .map rv] 30)) w7) := HB6.out.trans (hB7.mono (HZ5.out ▸ HB6.out.size))
      have HM7 : Hid (w7.ownsMap Try.prog 9 Rstr b1 len L1) := HM6.out.kept (grown_of_below hB7) (by simp)
      have HA7 : Hid (At w7 ao3 es) := HA6.out.below hB7
      clear hB7
      obtain ⟨w8, hup, _, hg8⟩ := HM7.out.update keyed9 Try.underlying31 (by unfold maxLen; omega) (key := .string key) (val := .string sChanged) (WideMaps.keyOf_string_mk Try.underlying9 HK.out) rfl
      have z7 := HB7.out.size
      rw [HZ5.out] at z7
      have HB8 : Hid (Below (w4.heap.size + 1) (w4.alloc (.cells #[.string file, .int .i64 line, .map rv] 30)) w8) := HB7.out.grown hg8 z7 (fun k h => by cases h; exact hb1)
      have hh8 : w8.heap[w4.heap.size]? = some (.cells #[.string file, .int .i64 line, .map rv] 30 (0, 0)) := (HB8.out.block _ (by omega)).trans HH5.out
      have c0 : w8.cell? ⟨w4.heap.size, 0, none⟩ = some (.string file) := by rw [cell_of_row _ _ _ _ _ _ hh8]; rfl
      have c1 : w8.cell? ⟨w4.heap.size, 1, none⟩ = some (.int .i64 line) := by rw [cell_of_row _ _ _ _ _ _ hh8]; rfl
      have c2 : w8.cell? ⟨w4.heap.size, 2, none⟩ = some (.map rv) := by rw [cell_of_row _ _ _ _ _ _ hh8]; rfl
      have HB8' : Hid (Below (w4.alloc (.cells #[.string file, .int .i64 line, .map rv] 30)).heap.size (w4.alloc (.cells #[.string file, .int .i64 line, .map rv] 30)) w8) := HZ5.out ▸ HB8.out
      have HA8 : Hid (At w8 ao3 es) := HA5.out.below HB8'.out
      have HF8 : Hid (FieldIs w8 (.map rv) (.iface 27 (.map (some lb)))) := HF5.out.below HB8'.out
      have HM8 : Hid (w8.ownsMap Try.prog 9 Rany lb len (LM es)) := HM5.out.kept (grown_of_below HB8'.out) (by simp)
      clear hg8 hh8 z7
      go_wp2_with fail
      refine (labels_map file line (.map rv) lb len es _ HF8.out HM8.out (by omega)).mono ?_
      rintro e w9 ⟨b2, L2, rfl, hb2, hM9, hL9, hB9⟩
      have HM9 : Hid (w9.ownsMap Try.prog 9 Rstr b2 len L2) := hM9
      have HA9 : Hid (At w9 ao3 es) := HA8.out.below hB9
      have HL9 : Hid (Lab L2 es) := hL9
      have HB9 : Hid (Below w.heap.size w w9) := (HB5.out.trans (HB8'.out.mono HB5.out.size)).trans (hB9.mono (Nat.le_trans HB5.out.size HB8'.out.size))
      clear hM9 hB9 hL9
      go_wp2_with fail
      refine (shape0_any ao3 len cap3 b2 len es L2 _ HN.out hreach HO.out HA9.out HM9.out HL9.out).mono ?_
      rintro e w10 ⟨rfl, hB10⟩
      have HB10 : Hid (Below w.heap.size w w10) := HB9.out.trans (hB10.mono HB9.out.size)
      clear hB10
      go_wp2
      go_ret
      exact ⟨rfl, HB10.out⟩

set_option maxRecDepth 100000 in
set_option maxHeartbeats 1000000 in
theorem law4_other (file key : ByteArray) (line : Int) (ao : Option Addr) (len cap : Nat) (es : List Ent) (w : World) (hn : es.length = len) (hreach : len * 40 ≤ 140737488355328) (hok : EOk es) (hA : At w ao es) (hks : key.size ≤ maxLen) (q : Int) (hq : q ≠ 0) (hf : ¬ (1048576 : Int) < (file.size : Int)) (hk : ¬ (1048576 : Int) < (key.size : Int)) :
    Calls Try.prog 4 #[.string file, .int .i64 line, .slice ao len cap, .int .u8 q, .string key] w fun e w' => e = .returned (.bool true) ∧ Below w.heap.size w w' := by
  have HA : Hid (At w ao es) := hA
  have HN : Hid (es.length = len) := hn
  have HO : Hid (EOk es) := hok
  have HK : Hid (key.size ≤ maxLen) := hks
  have HQ : Hid (q ≠ 0) := hq
  clear hA hn hok hks hq
  go_enter Try.func4, Try.ntmps4
  go_wp2_with fail
  refine (zz12_any file key _ _ ao len cap es _ HN.out hreach HA.out).mono ?_
  rintro e w1 ⟨⟨r, rfl⟩, hB1⟩
  have HB1 : Hid (Below w.heap.size w w1) := hB1
  clear hB1
  cases r with
  | false =>
    go_wp2
    go_ret
    exact ⟨rfl, HB1.out⟩
  | true =>
    go_wp2_with fail
    refine (big_any ao len cap es _ _ HN.out hreach (HA.out.below HB1.out)).mono ?_
    rintro e w2 ⟨⟨r, rfl⟩, hB2⟩
    have HB2 : Hid (Below w.heap.size w w2) := HB1.out.trans (hB2.mono HB1.out.size)
    clear hB2
    cases r with
    | true =>
      go_wp2
      go_ret
      exact ⟨rfl, HB2.out⟩
    | false =>
      go_wp2_with fail
      refine (clone_any ao len cap es _ HN.out hreach (HA.out.below HB2.out)).mono ?_
      rintro e w3 ⟨ao3, cap3, rfl, hA3, hB3⟩
      have HA3 : Hid (At w3 ao3 es) := hA3
      have HB3 : Hid (Below w.heap.size w w3) := HB2.out.trans (hB3.mono HB2.out.size)
      clear hB3 hA3
      go_wp2_with fail
      refine (bodyN ao3 len cap3 es _ q HQ.out HN.out hreach HO.out HA3.out).mono ?_
      rintro e w4 ⟨rv, x, rfl, hF4, hX4, hB4⟩
      have HA4 : Hid (At w4 ao3 es) := HA3.out.below hB4
      have HB4 : Hid (Below w.heap.size w w4) := HB3.out.trans (hB4.mono HB3.out.size)
      have HF4 : Hid (FieldIs w4 (.map rv) x) := hF4
      have HX : Hid (NoMap x) := hX4
      clear hB4 hF4 hX4
      have z5 : (w4.alloc (.cells #[.string file, .int .i64 line, .map rv] 30)).heap.size = w4.heap.size + 1 := by simp
      have b5 : Below w4.heap.size w4 (w4.alloc (.cells #[.string file, .int .i64 line, .map rv] 30)) := (Below.refl _ _).alloc (Nat.le_refl _) _
      have HZ5 : Hid ((w4.alloc (.cells #[.string file, .int .i64 line, .map rv] 30)).heap.size = w4.heap.size + 1) := z5
      have HB5 : Hid (Below w.heap.size w (w4.alloc (.cells #[.string file, .int .i64 line, .map rv] 30))) := HB4.out.trans (b5.mono HB4.out.size)
      have HA5 : Hid (At (w4.alloc (.cells #[.string file, .int .i64 line, .map rv] 30)) ao3 es) := HA4.out.below b5
      have HH5 : Hid ((w4.alloc (.cells #[.string file, .int .i64 line, .map rv] 30)).heap[w4.heap.size]? = some (.cells #[.string file, .int .i64 line, .map rv] 30 (0, 0))) := heap_alloc_new w4 _
      have HF5 : Hid (FieldIs (w4.alloc (.cells #[.string file, .int .i64 line, .map rv] 30)) (.map rv) x) := HF4.out.below b5
      clear z5 b5
      go_wp2_with fail
      refine (labels_no file line (.map rv) x _ HF5.out HX.out).mono ?_
      rintro e w6 ⟨b1, L1, rfl, hb1, hM6, hL6, hB6⟩
      rw [HZ5.out] at hb1
      have HB6 : Hid (Below (w4.heap.size + 1) (w4.alloc (.cells #[.string file, .int .i64 line, .map rv] 30)) w6) := HZ5.out ▸ hB6
      have HM6 : Hid (w6.ownsMap Try.prog 9 Rstr b1 0 L1) := hM6
      have HA6 : Hid (At w6 ao3 es) := HA5.out.below hB6
      have HL6 : Hid (L1 = .map []) := hL6
      clear hM6 hB6 hL6
      go_wp2_with fail
      refine (shapeN_any _ b1 0 q _ HQ.out (HL6.out ▸ HM6.out)).mono ?_
      rintro e w7 ⟨rfl, rfl⟩
      have HB7 : Hid (Below (w4.heap.size + 1) (w4.alloc (.cells #[.string file, .int .i64 line, .map rv] 30)) w6) := HB6
      have HM7 : Hid (w6.ownsMap Try.prog 9 Rstr b1 0 L1) := HM6
      have HA7 : Hid (At w6 ao3 es) := HA6
      obtain ⟨w8, hup, _, hg8⟩ := HM7.out.update keyed9 Try.underlying31 (by unfold maxLen; omega) (key := .string key) (val := .string sChanged) (WideMaps.keyOf_string_mk Try.underlying9 HK.out) rfl
      have z7 := HB7.out.size
      rw [HZ5.out] at z7
      have HB8 : Hid (Below (w4.heap.size + 1) (w4.alloc (.cells #[.string file, .int .i64 line, .map rv] 30)) w8) := HB7.out.grown hg8 z7 (fun k h => by cases h; exact hb1)
      have hh8 : w8.heap[w4.heap.size]? = some (.cells #[.string file, .int .i64 line, .map rv] 30 (0, 0)) := (HB8.out.block _ (by omega)).trans HH5.out
      have c0 : w8.cell? ⟨w4.heap.size, 0, none⟩ = some (.string file) := by rw [cell_of_row _ _ _ _ _ _ hh8]; rfl
      have c1 : w8.cell? ⟨w4.heap.size, 1, none⟩ = some (.int .i64 line) := by rw [cell_of_row _ _ _ _ _ _ hh8]; rfl
      have c2 : w8.cell? ⟨w4.heap.size, 2, none⟩ = some (.map rv) := by rw [cell_of_row _ _ _ _ _ _ hh8]; rfl
      have HB8' : Hid (Below (w4.alloc (.cells #[.string file, .int .i64 line, .map rv] 30)).heap.size (w4.alloc (.cells #[.string file, .int .i64 line, .map rv] 30)) w8) := HZ5.out ▸ HB8.out
      have HA8 : Hid (At w8 ao3 es) := HA5.out.below HB8'.out
      have HF8 : Hid (FieldIs w8 (.map rv) x) := HF5.out.below HB8'.out
      clear hg8 hh8 z7
      go_wp2_with fail
      refine (labels_no file line (.map rv) x _ HF8.out HX.out).mono ?_
      rintro e w9 ⟨b2, L2, rfl, hb2, hM9, hL9, hB9⟩
      have HM9 : Hid (w9.ownsMap Try.prog 9 Rstr b2 0 L2) := hM9
      have HA9 : Hid (At w9 ao3 es) := HA8.out.below hB9
      have HL9 : Hid (L2 = .map []) := hL9
      have HB9 : Hid (Below w.heap.size w w9) := (HB5.out.trans (HB8'.out.mono HB5.out.size)).trans (hB9.mono (Nat.le_trans HB5.out.size HB8'.out.size))
      clear hM9 hB9 hL9
      go_wp2_with fail
      refine (shapeN_any _ b2 0 q _ HQ.out (HL9.out ▸ HM9.out)).mono ?_
      rintro e w10 ⟨rfl, rfl⟩
      go_wp2
      go_ret
      exact ⟨rfl, HB9.out⟩

set_option maxRecDepth 100000 in
set_option maxHeartbeats 1000000 in
theorem law4_big (file key : ByteArray) (line : Int) (ao : Option Addr) (len cap : Nat) (es : List Ent) (w : World) (hn : es.length = len) (hreach : len * 40 ≤ 140737488355328) (hA : At w ao es) (q : Int) (h : (1048576 : Int) < (file.size : Int) ∨ (1048576 : Int) < (key.size : Int)) :
    Calls Try.prog 4 #[.string file, .int .i64 line, .slice ao len cap, .int .u8 q, .string key] w fun e w' => e = .returned (.bool true) ∧ Below w.heap.size w w' := by
  have HA : Hid (At w ao es) := hA
  have HN : Hid (es.length = len) := hn
  clear hA hn
  by_cases hf : (1048576 : Int) < (file.size : Int)
  · clear h
    go_enter Try.func4, Try.ntmps4
    go_wp2_with (go_at_call 12; refine (zz12_any file key _ _ ao len cap es _ HN.out hreach HA.out).mono ?_; rintro e w1 ⟨⟨r, rfl⟩, hB1⟩; have HB1 : Hid (Below w.heap.size w w1) := hB1; clear hB1)
    all_goals (go_ret; exact ⟨rfl, HB1.out⟩)
  · have hk : (1048576 : Int) < (key.size : Int) := by omega
    clear h
    go_enter Try.func4, Try.ntmps4
    go_wp2_with (go_at_call 12; refine (zz12_any file key _ _ ao len cap es _ HN.out hreach HA.out).mono ?_; rintro e w1 ⟨⟨r, rfl⟩, hB1⟩; have HB1 : Hid (Below w.heap.size w w1) := hB1; clear hB1)
    all_goals (go_ret; exact ⟨rfl, HB1.out⟩)

theorem law4_any (file key : ByteArray) (line : Int) (ao : Option Addr) (len cap : Nat) (es : List Ent) (w : World) (hn : es.length = len) (hreach : len * 40 ≤ 140737488351232) (hok : EOk es) (hA : At w ao es) (hks : key.size ≤ maxLen) (q : Int) :
    Calls Try.prog 4 #[.string file, .int .i64 line, .slice ao len cap, .int .u8 q, .string key] w fun e w' => e = .returned (.bool true) ∧ Below w.heap.size w w' := by
  by_cases h : (1048576 : Int) < (file.size : Int) ∨ (1048576 : Int) < (key.size : Int)
  · exact law4_big file key line ao len cap es w hn (by omega) hA q h
  · by_cases hq : q = 0
    · subst hq
      exact law4_zero file key line ao len cap es w hn (by omega) hok hA hks (by omega) (by omega)
    · exact law4_other file key line ao len cap es w hn (by omega) hok hA hks q hq (by omega) (by omega)
end Go.Proofs.Qxb6616283a
