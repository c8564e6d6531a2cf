import Derived.Test.Qxb6616283aFmtFld
namespace Go.Proofs.Qxb6616283aFmt
open Go.RowKit Go.Maps

/-- A value read as itself. -/
def RH (v : Value) : Option (DataW Value × List MemPlace) := some (.held v, [])
theorem grown_of_below {w w' : World} (h : Below w.heap.size w w') : w.grownBy w' none := ⟨h.os, h.tape, h.output, h.size, fun i hi _ => h.block i hi⟩
theorem zeroAny (w : World) : (zeroValue 20).run Tryf.prog w = .ok .nilIface w := by kernel_rfl

theorem look_of {w : World} {b n : Nat} {D : DataW Value} (h : w.ownsMap Tryf.prog 9 RH b n D) (k : ByteArray) (hk : k.size ≤ maxLen) (x : Value) (hx : D.atKey (.string k.data.toList) (.held .nilIface) = .held x) : LookL w (.map (some b)) k x := fun w' hb => by
  obtain ⟨v, ps, hrun, hv⟩ := (h.kept (grown_of_below hb) (by simp)).lookup keyed9 Tryf.underlying26 (zeroAny w') (zd := .held .nilIface) rfl (WideMaps.keyOf_string_mk Tryf.underlying9 hk)
  rw [hx] at hv
  simp only [RH, Option.some.injEq, Prod.mk.injEq, DataW.held.injEq] at hv
  rw [hrun, hv.1]
theorem look_none (w : World) (k : ByteArray) (hk : k.size ≤ maxLen) : LookL w (.map none) k .nilIface := fun w' _ => by
  have := Maps.look_nil false keyed9 Tryf.underlying26 (zeroAny w') (WideMaps.keyOf_string_mk Tryf.underlying9 hk)
  simpa using this

abbrev sKind : ByteArray := ⟨#[107, 105, 110, 100]⟩
abbrev sPod : ByteArray := ⟨#[80, 111, 100]⟩
abbrev sName : ByteArray := ⟨#[110, 97, 109, 101]⟩
abbrev sN : ByteArray := ⟨#[110]⟩

set_option maxRecDepth 100000 in
set_option maxHeartbeats 1000000 in
theorem body0 (ao : Option Addr) (len cap : Nat) (es : List Ent) (w : World) (hn : es.length = len) (hreach : len * 40 ≤ 140737488355328) (hok : EOk es) (hA : At w ao es) :
    Calls Tryf.prog 9 #[.slice ao len cap, .int .u8 0] w fun e w' => ∃ (r : Option Nat) (lb : Nat), e = .returned (.map r) ∧ FieldIs w' (.map r) (.iface 26 (.map (some lb))) ∧ w'.ownsMap Tryf.prog 9 Rany lb len (LM es) ∧ Below w.heap.size w w' := by
  have hmm := @run_makeMap Tryf.prog
  have kk : ∀ k : ByteArray, k.size ≤ 8 → keyOf Tryf.prog 9 (.string k) = some (.string k.data.toList) := fun k hk => WideMaps.keyOf_string_mk Tryf.underlying9 (by unfold maxLen; omega)
  obtain ⟨w2, u1, o2, g2⟩ := (World.ownsMap_made w Tryf.prog 9 RH).update keyed9 Tryf.underlying26 (by decide) (key := .string sKind) (val := .iface 9 (.string sPod)) (kk sKind (by decide)) rfl
  obtain ⟨w4, u2, o4, g4⟩ := (World.ownsMap_made w2 Tryf.prog 9 RH).update keyed9 Tryf.underlying26 (by decide) (key := .string sName) (val := .iface 9 (.string sN)) (kk sName (by decide)) rfl
  have z2 : w.heap.size + 1 ≤ w2.heap.size := by have := g2.size; simpa using this
  have z4 : w2.heap.size + 1 ≤ w4.heap.size := by have := g4.size; simpa using this
  have b2 : Below w.heap.size w w2 := ((Below.refl _ _).alloc (Nat.le_refl _) _).grown g2 (by simp) (fun k h => by cases h; exact Nat.le_refl _)
  have b24 : Below w2.heap.size w2 w4 := ((Below.refl _ _).alloc (Nat.le_refl _) _).grown g4 (by simp) (fun k h => by cases h; exact Nat.le_refl _)
  have b4 : Below w.heap.size w w4 := b2.trans (b24.mono (by omega))
  have HA : Hid (At w4 ao es) := hA.below b4
  have O2 : Hid (w4.ownsMap Tryf.prog 9 RH w.heap.size 1 (DataW.put (.map []) (.string sKind.data.toList) (.held (.iface 9 (.string sPod))))) := o2.kept (grown_of_below b24) (by simp)
  have O4 : Hid (w4.ownsMap Tryf.prog 9 RH w2.heap.size 1 (DataW.put (.map []) (.string sName.data.toList) (.held (.iface 9 (.string sN))))) := o4
  have B4 : Hid (Below w.heap.size w w4) := b4
  clear hA b4 b24 b2 g2 g4 o2 o4
  go_enter Tryf.func9, Tryf.ntmps9
  go_wp2_with (go_at_call 21; refine (lmap_any ao len cap es _ hn hreach hok HA.out).mono ?_; rintro e w5 ⟨rfl, HM5, HB5⟩; obtain ⟨w6, u3, o6, g6⟩ := (O4.out.kept (grown_of_below HB5) (by simp)).update keyed9 Tryf.underlying26 (by decide) (key := .string sLabels) (val := .iface 26 (.map (some w4.heap.size))) (kk sLabels (by decide)) rfl; obtain ⟨w7, u4, o7, g7⟩ := ((O2.out.kept (grown_of_below HB5) (by simp)).kept g6 (by simp; omega)).update keyed9 Tryf.underlying26 (by decide) (key := .string sMeta) (val := .iface 26 (.map (some w2.heap.size))) (kk sMeta (by decide)) rfl; have O6 := o6.kept g7 (by simp; omega); have L7 := (HM5.kept g6 (by simp; omega)).kept g7 (by simp; omega); have z5 := HB5.size; have z6 := g6.size; have B7 : Below w.heap.size w w7 := (((B4.out.trans (HB5.mono (by omega))).grown g6 (by omega) (fun k h => by cases h; omega)).grown g7 (by omega) (fun k h => by cases h; omega)); have HF : Hid (Below w.heap.size w w7 ∧ w7.ownsMap Tryf.prog 9 Rany w4.heap.size len (LM es) ∧ FieldIs w7 (.map (some w.heap.size)) (.iface 26 (.map (some w4.heap.size)))) := ⟨B7, L7, _, look_of o7 sMeta (by decide) (.iface 26 (.map (some w2.heap.size))) rfl, Or.inl ⟨_, rfl, look_of O6 sLabels (by decide) _ rfl⟩⟩; clear HM5 HB5 o6 g6 o7 g7 O6 L7 B7 z5 z6)
  go_ret
  exact ⟨_, _, rfl, HF.out.2.2, HF.out.2.1, HF.out.1⟩
end Go.Proofs.Qxb6616283aFmt
