import Derived.Test.Qxb6616283aFmtErr
import Derived.Test.Qxb6616283aFmtZz
namespace Go.Proofs.Qxb6616283aFmt
open Go.RowKit Go.Maps Go.Stop

set_option maxRecDepth 100000 in
set_option maxHeartbeats 1000000 in
theorem law5_big (path : ByteArray) (ao : Option Addr) (len cap : Nat) (es : List Ent) (q : Int) (w : World) (hn : es.length = len) (hreach : len * 40 ≤ 140737488355328) (hA : At w ao es) (hf : (1048576 : Int) < (path.size : Int)) :
    Calls Tryf.prog 5 #[.string path, .slice ao len cap, .int .u8 q] w fun e w' => e = .returned (.bool true) ∧ Below w.heap.size w w' := by
  have HA : Hid (At w ao es) := hA
  have HN : Hid (es.length = len) := hn
  clear hA hn
  go_enter Tryf.func5, Tryf.ntmps5
  go_wp2_with (go_at_call 18; refine (zz18_any path _ ao len cap es _ HN.out hreach HA.out).mono ?_; rintro e w1 ⟨⟨r, rfl⟩, hB1⟩; have HB1 : Hid (Below w.heap.size w w1) := hB1; clear hB1)
  all_goals (go_ret; exact ⟨rfl, HB1.out⟩)

set_option maxRecDepth 100000 in
set_option maxHeartbeats 1000000 in
theorem law5_zero (path : ByteArray) (ao : Option Addr) (len cap : Nat) (es : List Ent) (w : World) (hn : es.length = len) (hreach : len * 40 ≤ 140737488355328) (hok : EOk es) (hA : At w ao es) (hf : ¬ (1048576 : Int) < (path.size : Int)) :
    Calls Tryf.prog 5 #[.string path, .slice ao len cap, .int .u8 0] w fun e w' => e = .returned (.bool true) ∧ Below w.heap.size w w' := by
  have hmm := @run_makeMap Tryf.prog
  have qm : ∀ (w : World) (r : Option Nat), (binOp .eql 26 (.map r) (.map none)).run Tryf.prog w = .ok (.bool r.isNone) w := fun w r => run_eql_map_nil w _ _ _ r Tryf.underlying26
  have HA : Hid (At w ao es) := hA
  have HN : Hid (es.length = len) := hn
  have HO : Hid (EOk es) := hok
  clear hA hn hok
  go_enter Tryf.func5, Tryf.ntmps5
  go_wp2_with fail
  refine (zz18_any path _ ao len cap es _ HN.out hreach HA.out).mono ?_
  rintro e w1 ⟨⟨r, rfl⟩, hB1⟩
  have HB1 : Hid (Below w.heap.size w w1) := hB1
  clear hB1
  cases r with
  | false =>
    go_wp2
    go_ret
    exact ⟨rfl, HB1.out⟩
  | true =>
    go_wp2_with fail
    refine (big_any ao len cap es _ _ HN.out hreach (HA.out.below HB1.out)).mono ?_
    rintro e w2 ⟨⟨r, rfl⟩, hB2⟩
    have HB2 : Hid (Below w.heap.size w w2) := HB1.out.trans (hB2.mono HB1.out.size)
    clear hB2
    cases r with
    | true =>
      go_wp2
      go_ret
      exact ⟨rfl, HB2.out⟩
    | false =>
      go_wp2_with fail
      refine (clone_any ao len cap es _ HN.out hreach (HA.out.below HB2.out)).mono ?_
      rintro e w3 ⟨ao3, cap3, rfl, hA3, hB3⟩
      have HA3 : Hid (At w3 ao3 es) := hA3
      have HB3 : Hid (Below w.heap.size w w3) := HB2.out.trans (hB3.mono HB2.out.size)
      clear hB3 hA3
      go_wp2_with fail
      refine (body0 ao3 len cap3 es _ HN.out hreach HO.out HA3.out).mono ?_
      rintro e w4 ⟨rv, lb, rfl, hF4, hM4, hB4⟩
      have HA4 : Hid (At w4 ao3 es) := HA3.out.below hB4
      have HB4 : Hid (Below w.heap.size w w4) := HB3.out.trans (hB4.mono HB3.out.size)
      have HF4 : Hid (FieldIs w4 (.map rv) (.iface 26 (.map (some lb)))) := hF4
      have HM4 : Hid (w4.ownsMap Tryf.prog 9 Rany lb len (LM es)) := hM4
      clear hB4 hF4 hM4
      have b5 := docW_below w4 ⟨#[]⟩ 0 (.map rv)
      have HF5 : Hid (FieldIs (docW w4 ⟨#[]⟩ 0 (.map rv)) (.map rv) (.iface 26 (.map (some lb)))) := HF4.out.below b5
      have HA5 : Hid (At (docW w4 ⟨#[]⟩ 0 (.map rv)) ao3 es) := HA4.out.below b5
      have HB5 : Hid (Below w.heap.size w (docW w4 ⟨#[]⟩ 0 (.map rv))) := HB4.out.trans (b5.mono HB4.out.size)
      have HM5 : Hid ((docW w4 ⟨#[]⟩ 0 (.map rv)).ownsMap Tryf.prog 9 Rany lb len (LM es)) := HM4.out.kept (grown_of_below b5) (by simp)
      clear b5
      go_wp2_with fail
      refine (field_any ⟨#[]⟩ 0 (.map rv) _ (w4.heap.size + 1) (docW w4 ⟨#[]⟩ 0 (.map rv)) HF5.out (by simp) (docW_cell w4 ⟨#[]⟩ 0 (.map rv)).1 (docW_cell w4 ⟨#[]⟩ 0 (.map rv)).2).mono ?_
      rintro e w6 ⟨rfl, hB6⟩
      have HM6 : Hid (w6.ownsMap Tryf.prog 9 Rany lb len (LM es)) := HM5.out.kept (grown_of_below hB6) (by simp)
      have HA6 : Hid (At w6 ao3 es) := HA5.out.below hB6
      have HB6 : Hid (Below w.heap.size w w6) := HB5.out.trans (hB6.mono HB5.out.size)
      clear hB6
      go_wp2_with fail
      refine (req_yes path lb w6).mono ?_
      rintro e w7 ⟨rfl, rfl⟩
      have hln : ∀ ty, (Builtin.len_ #[26] ty #[.map (some lb)]).run Tryf.prog w6 = .ok (.int .i64 (cntD es)) w6 := fun ty => by
        rw [← LM_size]
        exact HM6.out.len Tryf.underlying26 ty
      go_wp2_with fail
      refine (dist_any ao3 len cap3 es _ HN.out hreach HA6.out).mono ?_
      rintro e w8 ⟨rfl, hB8⟩
      have hlb : lb < w8.heap.size := Nat.lt_of_lt_of_le HM6.out.lt hB8.size
      have HM8 : Hid (w8.ownsMap Tryf.prog 9 Rany lb len (LM es)) := HM6.out.kept (grown_of_below hB8) (by simp)
      have HA8 : Hid (At w8 ao3 es) := HA6.out.below hB8
      have HB8 : Hid (Below w.heap.size w w8) := HB6.out.trans (hB8.mono HB6.out.size)
      clear hB8 hln
      have z1 : (w8.alloc (.map #[] 0)).heap.size = w8.heap.size + 1 := by simp
      have o1 := (World.ownsMap_made w8 Tryf.prog 9 RH).alloc (.map #[] 0)
      have o2 := World.ownsMap_made (w8.alloc (.map #[] 0)) Tryf.prog 9 RH
      rw [z1] at o2
      have b1 : Below w8.heap.size w8 ((w8.alloc (.map #[] 0)).alloc (.map #[] 0)) := ((Below.refl _ _).alloc (Nat.le_refl _) _).alloc (by simp) _
      obtain ⟨w9, u3, o9, g9⟩ := o2.update keyed9 Tryf.underlying26 (by decide) (key := .string sLabels) (val := .iface 26 (.map (some lb))) (kk sLabels (by decide)) rfl
      obtain ⟨w10, u4, o10, g10⟩ := (o1.kept g9 (by simp)).update keyed9 Tryf.underlying26 (by decide) (key := .string sMeta) (val := .iface 26 (.map (some (w8.heap.size + 1)))) (kk sMeta (by decide)) rfl
      have O9 := o9.kept g10 (by simp)
      have z9 := g9.size
      simp at z9
      have b10 : Below w8.heap.size w8 w10 := (b1.grown g9 (by simp; omega) (fun k h => by cases h; omega)).grown g10 (by omega) (fun k h => by cases h; exact Nat.le_refl _)
      have HF10 : Hid (FieldIs w10 (.map (some w8.heap.size)) (.iface 26 (.map (some lb)))) := ⟨_, look_of o10 sMeta (by decide) (.iface 26 (.map (some (w8.heap.size + 1)))) rfl, Or.inl ⟨_, rfl, look_of O9 sLabels (by decide) _ rfl⟩⟩
      have HM10 : Hid (w10.ownsMap Tryf.prog 9 Rany lb len (LM es)) := HM8.out.kept (grown_of_below b10) (by simp)
      have HA10 : Hid (At w10 ao3 es) := HA8.out.below b10
      have HB10 : Hid (Below w.heap.size w w10) := HB8.out.trans (b10.mono HB8.out.size)
      clear z1 o1 o2 b1 o9 g9 o10 g10 O9 z9 b10
      go_wp2_with fail
      refine (labels_map ⟨#[]⟩ 0 (.map (some w8.heap.size)) lb len es _ HF10.out HM10.out (by omega)).mono ?_
      rintro e w11 ⟨b2, L2, rfl, hb2, hM11, hL11, hB11⟩
      have HM11 : Hid (w11.ownsMap Tryf.prog 9 Rstr b2 len L2) := hM11
      have HA11 : Hid (At w11 ao3 es) := HA10.out.below hB11
      have HL11 : Hid (Lab L2 es) := hL11
      have HB11 : Hid (Below w.heap.size w w11) := HB10.out.trans (hB11.mono HB10.out.size)
      clear hM11 hL11 hB11 hb2
      go_wp2_with fail
      refine (are_any ao3 len cap3 b2 len es L2 _ HN.out hreach HO.out HA11.out HM11.out HL11.out).mono ?_
      rintro e w12 ⟨rfl, hB12⟩
      have HB12 : Hid (Below w.heap.size w w12) := HB11.out.trans (hB12.mono HB11.out.size)
      clear hB12
      go_wp2
      go_ret
      exact ⟨rfl, HB12.out⟩

set_option maxRecDepth 100000 in
set_option maxHeartbeats 1000000 in
theorem law5_other (F : Interp) (path : ByteArray) (ao : Option Addr) (len cap : Nat) (es : List Ent) (w : World) (hn : es.length = len) (hreach : len * 40 ≤ 140737488355328) (hok : EOk es) (hA : At w ao es) (q : Int) (hq : q ≠ 0) (hT : F.answers w.tape) (hf : ¬ (1048576 : Int) < (path.size : Int)) :
    Calls Tryf.prog 5 #[.string path, .slice ao len cap, .int .u8 q] w fun e w' => e = .returned (.bool true) ∧ Below w.heap.size w w' := by
  have hmm := @run_makeMap Tryf.prog
  have qm : ∀ (w : World) (r : Option Nat), (binOp .eql 26 (.map r) (.map none)).run Tryf.prog w = .ok (.bool r.isNone) w := fun w r => run_eql_map_nil w _ _ _ r Tryf.underlying26
  have HA : Hid (At w ao es) := hA
  have HN : Hid (es.length = len) := hn
  have HO : Hid (EOk es) := hok
  have HQ : Hid (q ≠ 0) := hq
  have HT : Hid (F.answers w.tape) := hT
  have q0 : (q != 0) = true := by simpa using hq
  clear hA hn hok hq hT
  go_enter Tryf.func5, Tryf.ntmps5
  go_wp2_with fail
  refine (zz18_any path _ ao len cap es _ HN.out hreach HA.out).mono ?_
  rintro e w1 ⟨⟨r, rfl⟩, hB1⟩
  have HB1 : Hid (Below w.heap.size w w1) := hB1
  clear hB1
  cases r with
  | false =>
    go_wp2
    go_ret
    exact ⟨rfl, HB1.out⟩
  | true =>
    go_wp2_with fail
    refine (big_any ao len cap es _ _ HN.out hreach (HA.out.below HB1.out)).mono ?_
    rintro e w2 ⟨⟨r, rfl⟩, hB2⟩
    have HB2 : Hid (Below w.heap.size w w2) := HB1.out.trans (hB2.mono HB1.out.size)
    clear hB2
    cases r with
    | true =>
      go_wp2
      go_ret
      exact ⟨rfl, HB2.out⟩
    | false =>
      go_wp2_with fail
      refine (clone_any ao len cap es _ HN.out hreach (HA.out.below HB2.out)).mono ?_
      rintro e w3 ⟨ao3, cap3, rfl, hA3, hB3⟩
      have HA3 : Hid (At w3 ao3 es) := hA3
      have HB3 : Hid (Below w.heap.size w w3) := HB2.out.trans (hB3.mono HB2.out.size)
      clear hB3 hA3
      go_wp2_with fail
      refine (bodyN ao3 len cap3 es _ q HQ.out HN.out hreach HO.out HA3.out).mono ?_
      rintro e w4 ⟨rv, x, rfl, hF4, hX4, hB4⟩
      have HA4 : Hid (At w4 ao3 es) := HA3.out.below hB4
      have HB4 : Hid (Below w.heap.size w w4) := HB3.out.trans (hB4.mono HB3.out.size)
      have HF4 : Hid (FieldIs w4 (.map rv) x) := hF4
      have HX : Hid (NoMap x) := hX4
      clear hB4 hF4 hX4
      have b5 := docW_below w4 ⟨#[]⟩ 0 (.map rv)
      have HF5 : Hid (FieldIs (docW w4 ⟨#[]⟩ 0 (.map rv)) (.map rv) (x)) := HF4.out.below b5
      have HA5 : Hid (At (docW w4 ⟨#[]⟩ 0 (.map rv)) ao3 es) := HA4.out.below b5
      have HB5 : Hid (Below w.heap.size w (docW w4 ⟨#[]⟩ 0 (.map rv))) := HB4.out.trans (b5.mono HB4.out.size)
      clear b5
      go_wp2_with fail
      refine (field_any ⟨#[]⟩ 0 (.map rv) x (w4.heap.size + 1) (docW w4 ⟨#[]⟩ 0 (.map rv)) HF5.out (by simp) (docW_cell w4 ⟨#[]⟩ 0 (.map rv)).1 (docW_cell w4 ⟨#[]⟩ 0 (.map rv)).2).mono ?_
      rintro e w6 ⟨rfl, hB6⟩
      have HB6 : Hid (Below w.heap.size w w6) := HB5.out.trans (hB6.mono HB5.out.size)
      clear hB6
      go_wp2_with fail
      refine (req_no F path x HX.out w6 (HB6.out.tape ▸ HT.out)).mono ?_
      rintro e w7 ⟨t7, x7, rfl, hB7⟩
      have HB7 : Hid (Below w.heap.size w w7) := HB6.out.trans (hB7.mono HB6.out.size)
      clear hB7
      go_wp2
      go_ret
      exact ⟨rfl, HB7.out⟩

theorem law5_any (F : Interp) (path : ByteArray) (ao : Option Addr) (len cap : Nat) (es : List Ent) (w : World) (hn : es.length = len) (hreach : len * 40 ≤ 140737488351232) (hok : EOk es) (hA : At w ao es) (q : Int) (hT : F.answers w.tape) :
    Calls Tryf.prog 5 #[.string path, .slice ao len cap, .int .u8 q] w fun e w' => e = .returned (.bool true) ∧ Below w.heap.size w w' := by
  by_cases h : (1048576 : Int) < (path.size : Int)
  · exact law5_big path ao len cap es q w hn (by omega) hA h
  · by_cases hq : q = 0
    · subst hq
      exact law5_zero path ao len cap es w hn (by omega) hok hA h
    · exact law5_other F path ao len cap es w hn (by omega) hok hA q hq hT h
end Go.Proofs.Qxb6616283aFmt
