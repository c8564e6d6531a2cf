import Derived.Test.Qxb6616283aFmtBody
namespace Go.Proofs.Qxb6616283aFmt
open Go.RowKit Go.Maps

/-- A body whose metadata.labels is no mapping. -/
def RetNo (w w' : World) (e : Ending) : Prop := ∃ (r : Option Nat) (x : Value), e = .returned (.map r) ∧ FieldIs w' (.map r) x ∧ NoMap x ∧ Below w.heap.size w w'
theorem kk (k : ByteArray) (hk : k.size ≤ 8) : keyOf Tryf.prog 9 (.string k) = some (.string k.data.toList) := WideMaps.keyOf_string_mk Tryf.underlying9 (by unfold maxLen; omega)

set_option maxRecDepth 100000 in
set_option maxHeartbeats 1000000 in
theorem body1 (ao : Option Addr) (len cap : Nat) (w : World) :
    Calls Tryf.prog 9 #[.slice ao len cap, .int .u8 1] w fun e w' => RetNo w w' e := by
  have hmm := @run_makeMap Tryf.prog
  obtain ⟨w2, u1, o2, g2⟩ := (World.ownsMap_made w Tryf.prog 9 RH).update keyed9 Tryf.underlying26 (by decide) (key := .string sKind) (val := .iface 9 (.string sPod)) (kk sKind (by decide)) rfl
  obtain ⟨w4, u2, o4, g4⟩ := (World.ownsMap_made w2 Tryf.prog 9 RH).update keyed9 Tryf.underlying26 (by decide) (key := .string sName) (val := .iface 9 (.string sN)) (kk sName (by decide)) rfl
  have z2 : w.heap.size + 1 ≤ w2.heap.size := by have := g2.size; simpa using this
  have z4 : w2.heap.size + 1 ≤ w4.heap.size := by have := g4.size; simpa using this
  have b2 : Below w.heap.size w w2 := ((Below.refl _ _).alloc (Nat.le_refl _) _).grown g2 (by simp) (fun k h => by cases h; exact Nat.le_refl _)
  have b24 : Below w2.heap.size w2 w4 := ((Below.refl _ _).alloc (Nat.le_refl _) _).grown g4 (by simp) (fun k h => by cases h; exact Nat.le_refl _)
  have b4 : Below w.heap.size w w4 := b2.trans (b24.mono (by omega))
  have O2 := o2.kept (grown_of_below b24) (by simp)
  obtain ⟨w7, u4, o7, g7⟩ := O2.update keyed9 Tryf.underlying26 (by decide) (key := .string sMeta) (val := .iface 26 (.map (some w2.heap.size))) (kk sMeta (by decide)) rfl
  have O4 := o4.kept g7 (by simp; omega)
  have HF : Hid (Below w.heap.size w w7 ∧ FieldIs w7 (.map (some w.heap.size)) .nilIface) := ⟨b4.grown g7 (by omega) (fun k h => by cases h; exact Nat.le_refl _), _, look_of o7 sMeta (by decide) (.iface 26 (.map (some w2.heap.size))) rfl, Or.inl ⟨_, rfl, look_of O4 sLabels (by decide) _ rfl⟩⟩
  clear o2 g2 o4 g4 b2 b24 b4 O2 o7 g7 O4
  go_enter Tryf.func9, Tryf.ntmps9
  go_wp2
  go_ret
  exact ⟨_, _, rfl, HF.out.2, Or.inl rfl, HF.out.1⟩

set_option maxRecDepth 100000 in
set_option maxHeartbeats 1000000 in
theorem body2 (ao : Option Addr) (len cap : Nat) (w : World) :
    Calls Tryf.prog 9 #[.slice ao len cap, .int .u8 2] w fun e w' => RetNo w w' e := by
  have hmm := @run_makeMap Tryf.prog
  obtain ⟨w2, u1, o2, g2⟩ := (World.ownsMap_made w Tryf.prog 9 RH).update keyed9 Tryf.underlying26 (by decide) (key := .string sKind) (val := .iface 9 (.string sPod)) (kk sKind (by decide)) rfl
  have b2 : Below w.heap.size w w2 := ((Below.refl _ _).alloc (Nat.le_refl _) _).grown g2 (by simp) (fun k h => by cases h; exact Nat.le_refl _)
  have HF : Hid (Below w.heap.size w w2 ∧ FieldIs w2 (.map (some w.heap.size)) .nilIface) := ⟨b2, _, look_of o2 sMeta (by decide) .nilIface rfl, Or.inr ⟨Or.inl rfl, rfl⟩⟩
  clear o2 g2 b2
  go_enter Tryf.func9, Tryf.ntmps9
  go_wp2
  go_ret
  exact ⟨_, _, rfl, HF.out.2, Or.inl rfl, HF.out.1⟩

set_option maxRecDepth 100000 in
set_option maxHeartbeats 1000000 in
theorem body3 (ao : Option Addr) (len cap : Nat) (w : World) :
    Calls Tryf.prog 9 #[.slice ao len cap, .int .u8 3] w fun e w' => RetNo w w' e := by
  have hmm := @run_makeMap Tryf.prog
  go_enter Tryf.func9, Tryf.ntmps9
  go_wp2
  go_ret
  exact ⟨_, _, rfl, ⟨_, look_none _ sMeta (by decide), Or.inr ⟨Or.inl rfl, rfl⟩⟩, Or.inl rfl, Below.refl _ _⟩

set_option maxRecDepth 100000 in
set_option maxHeartbeats 1000000 in
theorem body4 (ao : Option Addr) (len cap : Nat) (es : List Ent) (w : World) (hn : es.length = len) (hreach : len * 40 ≤ 140737488355328) (hok : EOk es) (hA : At w ao es) :
    Calls Tryf.prog 9 #[.slice ao len cap, .int .u8 4] w fun e w' => RetNo w w' e := by
  have hmm := @run_makeMap Tryf.prog
  have z1 : (w.alloc (.map #[] 0)).heap.size = w.heap.size + 1 := by simp
  have o1 := (World.ownsMap_made w Tryf.prog 9 RH).alloc (.map #[] 0)
  have o2 := World.ownsMap_made (w.alloc (.map #[] 0)) Tryf.prog 9 RH
  rw [z1] at o2
  have b1 : Below w.heap.size w ((w.alloc (.map #[] 0)).alloc (.map #[] 0)) := ((Below.refl _ _).alloc (Nat.le_refl _) _).alloc (by simp) _
  have zz : ((w.alloc (.map #[] 0)).alloc (.map #[] 0)).heap.size = w.heap.size + 1 + 1 := by simp
  have HA : Hid (At ((w.alloc (.map #[] 0)).alloc (.map #[] 0)) ao es) := hA.below b1
  have O1 : Hid (((w.alloc (.map #[] 0)).alloc (.map #[] 0)).ownsMap Tryf.prog 9 RH w.heap.size 0 (.map [])) := o1
  have O2 : Hid (((w.alloc (.map #[] 0)).alloc (.map #[] 0)).ownsMap Tryf.prog 9 RH (w.heap.size + 1) 0 (.map [])) := o2
  have B1 : Hid (Below w.heap.size w ((w.alloc (.map #[] 0)).alloc (.map #[] 0))) := b1
  have ZZ : Hid (((w.alloc (.map #[] 0)).alloc (.map #[] 0)).heap.size = w.heap.size + 1 + 1) := zz
  clear z1 o1 o2 b1 zz hA
  go_enter Tryf.func9, Tryf.ntmps9
  go_wp2_with (go_at_call 22; refine (slab_any ao len cap es _ hn hreach hok HA.out).mono ?_; rintro e w5 ⟨h5, HB5⟩; rw [ZZ.out] at h5; subst h5; have HW := HB5; rw [ZZ.out] at HB5; have gB : (((w.alloc (.map #[] 0)).alloc (.map #[] 0))).grownBy w5 none := grown_of_below HW; have z5 := HB5.size; rw [ZZ.out] at z5; obtain ⟨w6, u3, o6, g6⟩ := (O2.out.kept gB (by simp)).update keyed9 Tryf.underlying26 (by decide) (key := .string sLabels) (val := .iface 34 (.map (some (w.heap.size + 1 + 1)))) (kk sLabels (by decide)) rfl; obtain ⟨w7, u4, o7, g7⟩ := ((O1.out.kept gB (by simp)).kept g6 (by simp)).update keyed9 Tryf.underlying26 (by decide) (key := .string sMeta) (val := .iface 26 (.map (some (w.heap.size + 1)))) (kk sMeta (by decide)) rfl; have O6 := o6.kept g7 (by simp); have z6 := g6.size; have HF : Hid (Below w.heap.size w w7 ∧ FieldIs w7 (.map (some w.heap.size)) (.iface 34 (.map (some (w.heap.size + 1 + 1))))) := ⟨(((B1.out.trans (HW.mono (by rw [ZZ.out]; omega))).grown g6 (by omega) (fun k h => by cases h; omega)).grown g7 (by omega) (fun k h => by cases h; exact Nat.le_refl _)), _, look_of o7 sMeta (by decide) (.iface 26 (.map (some (w.heap.size + 1)))) rfl, Or.inl ⟨_, rfl, look_of O6 sLabels (by decide) _ rfl⟩⟩; clear HB5 HW gB o6 g6 o7 g7 O6 z5 z6)
  go_ret
  exact ⟨_, _, rfl, HF.out.2, Or.inr ⟨_, _, rfl, by decide⟩, HF.out.1⟩

set_option maxRecDepth 100000 in
set_option maxHeartbeats 1000000 in
theorem body5 (ao : Option Addr) (len cap : Nat) (es : List Ent) (w : World) (hn : es.length = len) (hreach : len * 40 ≤ 140737488355328) (hok : EOk es) (hA : At w ao es) :
    Calls Tryf.prog 9 #[.slice ao len cap, .int .u8 5] w fun e w' => RetNo w w' e := by
  have hmm := @run_makeMap Tryf.prog
  have z1 : (w.alloc (.map #[] 0)).heap.size = w.heap.size + 1 := by simp
  have o1 := (World.ownsMap_made w Tryf.prog 9 RH).alloc (.map #[] 0)
  have o2 := World.ownsMap_made (w.alloc (.map #[] 0)) Tryf.prog 9 RH
  rw [z1] at o2
  have b1 : Below w.heap.size w ((w.alloc (.map #[] 0)).alloc (.map #[] 0)) := ((Below.refl _ _).alloc (Nat.le_refl _) _).alloc (by simp) _
  have zz : ((w.alloc (.map #[] 0)).alloc (.map #[] 0)).heap.size = w.heap.size + 1 + 1 := by simp
  have HA : Hid (At ((w.alloc (.map #[] 0)).alloc (.map #[] 0)) ao es) := hA.below b1
  have O1 : Hid (((w.alloc (.map #[] 0)).alloc (.map #[] 0)).ownsMap Tryf.prog 9 RH w.heap.size 0 (.map [])) := o1
  have O2 : Hid (((w.alloc (.map #[] 0)).alloc (.map #[] 0)).ownsMap Tryf.prog 9 RH (w.heap.size + 1) 0 (.map [])) := o2
  have B1 : Hid (Below w.heap.size w ((w.alloc (.map #[] 0)).alloc (.map #[] 0))) := b1
  have ZZ : Hid (((w.alloc (.map #[] 0)).alloc (.map #[] 0)).heap.size = w.heap.size + 1 + 1) := zz
  clear z1 o1 o2 b1 zz hA
  go_enter Tryf.func9, Tryf.ntmps9
  go_wp2_with (go_at_call 21; refine (lmap_any ao len cap es _ hn hreach hok HA.out).mono ?_; rintro e w5 ⟨h5, _, HB5⟩; rw [ZZ.out] at h5; subst h5; have HW := HB5; rw [ZZ.out] at HB5; have gB : (((w.alloc (.map #[] 0)).alloc (.map #[] 0))).grownBy (w5.alloc (.cells #[.iface 26 (.map (some (w.heap.size + 1 + 1)))] 20)) none := grown_of_below (HW.alloc HW.size _); have z5 := HB5.size; rw [ZZ.out] at z5; obtain ⟨w6, u3, o6, g6⟩ := (O2.out.kept gB (by simp)).update keyed9 Tryf.underlying26 (by decide) (key := .string sLabels) (val := .iface 48 (.slice (some ⟨w5.heap.size, 0, none⟩) 1 1)) (kk sLabels (by decide)) rfl; obtain ⟨w7, u4, o7, g7⟩ := ((O1.out.kept gB (by simp)).kept g6 (by simp)).update keyed9 Tryf.underlying26 (by decide) (key := .string sMeta) (val := .iface 26 (.map (some (w.heap.size + 1)))) (kk sMeta (by decide)) rfl; have O6 := o6.kept g7 (by simp); have z6 := g6.size; have HF : Hid (Below w.heap.size w w7 ∧ FieldIs w7 (.map (some w.heap.size)) (.iface 48 (.slice (some ⟨w5.heap.size, 0, none⟩) 1 1))) := ⟨(((B1.out.trans ((HW.alloc HW.size _).mono (by rw [ZZ.out]; omega))).grown g6 (by simp; omega) (fun k h => by cases h; omega)).grown g7 (by simp at z6; omega) (fun k h => by cases h; exact Nat.le_refl _)), _, look_of o7 sMeta (by decide) (.iface 26 (.map (some (w.heap.size + 1)))) rfl, Or.inl ⟨_, rfl, look_of O6 sLabels (by decide) _ rfl⟩⟩; clear HB5 HW gB o6 g6 o7 g7 O6 z5 z6)
  go_ret
  exact ⟨_, _, rfl, HF.out.2, Or.inr ⟨_, _, rfl, by decide⟩, HF.out.1⟩

set_option maxRecDepth 100000 in
set_option maxHeartbeats 1000000 in
theorem body6 (ao : Option Addr) (len cap : Nat) (w : World) :
    Calls Tryf.prog 9 #[.slice ao len cap, .int .u8 6] w fun e w' => RetNo w w' e := by
  have hmm := @run_makeMap Tryf.prog
  obtain ⟨w2, u1, o2, g2⟩ := (World.ownsMap_made w Tryf.prog 9 RH).update keyed9 Tryf.underlying26 (by decide) (key := .string sMeta) (val := .iface 9 (.string sLabels)) (kk sMeta (by decide)) rfl
  have b2 : Below w.heap.size w w2 := ((Below.refl _ _).alloc (Nat.le_refl _) _).grown g2 (by simp) (fun k h => by cases h; exact Nat.le_refl _)
  have HF : Hid (Below w.heap.size w w2 ∧ FieldIs w2 (.map (some w.heap.size)) .nilIface) := ⟨b2, _, look_of o2 sMeta (by decide) (.iface 9 (.string sLabels)) rfl, Or.inr ⟨Or.inr ⟨_, _, rfl, by decide⟩, rfl⟩⟩
  clear o2 g2 b2
  go_enter Tryf.func9, Tryf.ntmps9
  go_wp2
  go_ret
  exact ⟨_, _, rfl, HF.out.2, Or.inl rfl, HF.out.1⟩

set_option maxRecDepth 100000 in
set_option maxHeartbeats 1000000 in
theorem body7 (ao : Option Addr) (len cap : Nat) (w : World) (n : Int) (h0 : n ≠ 0) (h1 : n ≠ 1) (h2 : n ≠ 2) (h3 : n ≠ 3) (h4 : n ≠ 4) (h5 : n ≠ 5) (h6 : n ≠ 6) :
    Calls Tryf.prog 9 #[.slice ao len cap, .int .u8 n] w fun e w' => RetNo w w' e := by
  have hmm := @run_makeMap Tryf.prog
  have q0 : (n == 0) = false := by simpa using h0
  have q1 : (n == 1) = false := by simpa using h1
  have q2 : (n == 2) = false := by simpa using h2
  have q3 : (n == 3) = false := by simpa using h3
  have q4 : (n == 4) = false := by simpa using h4
  have q5 : (n == 5) = false := by simpa using h5
  have q6 : (n == 6) = false := by simpa using h6
  clear h0 h1 h2 h3 h4 h5 h6
  have z1 : (w.alloc (.map #[] 0)).heap.size = w.heap.size + 1 := by simp
  have o1 := (World.ownsMap_made w Tryf.prog 9 RH).alloc (.map #[] 0)
  have o2 := World.ownsMap_made (w.alloc (.map #[] 0)) Tryf.prog 9 RH
  rw [z1] at o2
  have b1 : Below w.heap.size w ((w.alloc (.map #[] 0)).alloc (.map #[] 0)) := ((Below.refl _ _).alloc (Nat.le_refl _) _).alloc (by simp) _
  obtain ⟨w6, u3, o6, g6⟩ := o2.update keyed9 Tryf.underlying26 (by decide) (key := .string sLabels) (val := .nilIface) (kk sLabels (by decide)) rfl
  obtain ⟨w7, u4, o7, g7⟩ := (o1.kept g6 (by simp)).update keyed9 Tryf.underlying26 (by decide) (key := .string sMeta) (val := .iface 26 (.map (some (w.heap.size + 1)))) (kk sMeta (by decide)) rfl
  have O6 := o6.kept g7 (by simp)
  have z6 := g6.size
  simp at z6
  have HF : Hid (Below w.heap.size w w7 ∧ FieldIs w7 (.map (some w.heap.size)) .nilIface) := ⟨(b1.grown g6 (by simp; omega) (fun k h => by cases h; omega)).grown g7 (by omega) (fun k h => by cases h; exact Nat.le_refl _), _, look_of o7 sMeta (by decide) (.iface 26 (.map (some (w.heap.size + 1)))) rfl, Or.inl ⟨_, rfl, look_of O6 sLabels (by decide) _ rfl⟩⟩
  clear z1 o1 o2 b1 o6 g6 o7 g7 O6 z6
  go_enter Tryf.func9, Tryf.ntmps9
  go_wp2
  go_ret
  exact ⟨_, _, rfl, HF.out.2, Or.inl rfl, HF.out.1⟩

theorem bodyN (ao : Option Addr) (len cap : Nat) (es : List Ent) (w : World) (n : Int) (h0 : n ≠ 0) (hn : es.length = len) (hreach : len * 40 ≤ 140737488355328) (hok : EOk es) (hA : At w ao es) :
    Calls Tryf.prog 9 #[.slice ao len cap, .int .u8 n] w fun e w' => RetNo w w' e := by
  by_cases h1 : n = 1
  · subst h1; exact body1 ao len cap w
  by_cases h2 : n = 2
  · subst h2; exact body2 ao len cap w
  by_cases h3 : n = 3
  · subst h3; exact body3 ao len cap w
  by_cases h4 : n = 4
  · subst h4; exact body4 ao len cap es w hn hreach hok hA
  by_cases h5 : n = 5
  · subst h5; exact body5 ao len cap es w hn hreach hok hA
  by_cases h6 : n = 6
  · subst h6; exact body6 ao len cap w
  exact body7 ao len cap w n h0 h1 h2 h3 h4 h5 h6
end Go.Proofs.Qxb6616283aFmt
