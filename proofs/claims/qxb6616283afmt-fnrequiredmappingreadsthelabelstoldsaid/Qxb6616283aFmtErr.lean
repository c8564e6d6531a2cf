import Derived.Test.Qxb6616283aFmtAre
import Derived.Stop.CallBack
import Derived.Stop.IfaceNil
import GoSem.ClaimData
namespace Go.Proofs.Qxb6616283aFmt
open Go.RowKit Go.Maps Go.Extern.Stop Go.Stop Go.Extern

theorem call30 (args : Array Value) (w : World) : (callFunc 30 args).run Tryf.prog w = ((FmtStop.errorf #[9, 48] #[31] args).run Tryf.prog w).andThen fun v w' => .ok (.value v) w' :=
  run_callFunc_extern Tryf.func30 (by kernel_rfl) (by kernel_rfl) (by kernel_rfl) (by kernel_rfl) args w
theorem fguard (name : String) (w : World) : (FmtStop.guard name).run Tryf.prog w = .ok () w := by kernel_rfl
theorem fmtM : FmtStop.printed? ⟨#[37, 115, 58, 32, 109, 105, 115, 115, 105, 110, 103]⟩ 1 = some [(0, 115, false)] := by kernel_rfl
theorem fmtMr (w : World) : (FmtDoors.printed ⟨#[37, 115, 58, 32, 109, 105, 115, 115, 105, 110, 103]⟩ 1).run Tryf.prog w = .ok [(0, 115, false)] w := by kernel_rfl
theorem fmtN : FmtStop.printed? ⟨#[37, 115, 58, 32, 110, 111, 116, 32, 97, 32, 109, 97, 112, 112, 105, 110, 103]⟩ 1 = some [(0, 115, false)] := by kernel_rfl
theorem fmtNr (w : World) : (FmtDoors.printed ⟨#[37, 115, 58, 32, 110, 111, 116, 32, 97, 32, 109, 97, 112, 112, 105, 110, 103]⟩ 1).run Tryf.prog w = .ok [(0, 115, false)] w := by kernel_rfl
def shape9 : List UInt8 := [12, 6, 0, 0, 0, 0, 0, 0, 0, 115, 116, 114, 105, 110, 103]
theorem op9 (name : String) (b : Bool) (x : ByteArray) (w : World) : (FmtStop.operand name b 115 false (.iface 9 (.string x))).run Tryf.prog w = .ok (shape9, FmtStop.pack x.data.toList) w := by cases b <;> kernel_rfl
theorem ptrE (w : World) : (FmtStop.ptrTo "errors.errorString").run Tryf.prog w = .ok 58 w := by kernel_rfl
theorem elemE (w : World) : (elemOf 58).run Tryf.prog w = .ok 60 w := by kernel_rfl

/-- An error is returned that is not nil. -/
def RetErr (w w' : World) (e : Ending) : Prop := ∃ t x, e = .returned (.iface t x) ∧ Below w.heap.size w w'

attribute [local go_sem] call30 fguard fmtM fmtMr fmtN fmtNr op9 ptrE elemE in
set_option maxRecDepth 100000 in
set_option maxHeartbeats 400000 in
theorem missing_any (F : Interp) (p : ByteArray) (w : World) (hF : F.answers w.tape) :
    Calls Tryf.prog 24 #[.string p] w fun e w' => RetErr w w' e := by
  have hF' := answers_open hF
  go_enter Tryf.func24, Tryf.ntmps24
  go_wp2
  go_ret
  exact ⟨_, _, rfl, ((((Below.refl _ _).alloc (Nat.le_refl _) _).alloc (by simp) _).drew)⟩

attribute [local go_sem] call30 fguard fmtM fmtMr fmtN fmtNr op9 ptrE elemE in
set_option maxRecDepth 100000 in
set_option maxHeartbeats 400000 in
theorem notMapping_any (F : Interp) (p : ByteArray) (w : World) (hF : F.answers w.tape) :
    Calls Tryf.prog 28 #[.string p] w fun e w' => RetErr w w' e := by
  have hF' := answers_open hF
  go_enter Tryf.func28, Tryf.ntmps28
  go_wp2
  go_ret
  exact ⟨_, _, rfl, ((((Below.refl _ _).alloc (Nat.le_refl _) _).alloc (by simp) _).drew)⟩

set_option maxRecDepth 100000 in
set_option maxHeartbeats 400000 in
theorem mapping_yes (p : ByteArray) (m : Value) (w : World) : Calls Tryf.prog 23 #[.string p, .iface 26 m] w fun e w' => e = .returned (.tuple #[m, .nilIface]) ∧ w = w' := by
  have ty := assertMap_yes
  go_enter Tryf.func23, Tryf.ntmps23
  go_wp2
  go_ret2
  exact ⟨rfl, rfl⟩

set_option maxRecDepth 100000 in
set_option maxHeartbeats 400000 in
theorem mapping_nil (p : ByteArray) (w : World) : Calls Tryf.prog 23 #[.string p, .nilIface] w fun e w' => e = .returned (.tuple #[.map none, .nilIface]) ∧ w = w' := by
  go_enter Tryf.func23, Tryf.ntmps23
  go_wp2
  go_ret2
  exact ⟨rfl, rfl⟩

/-- No mapping, and an error. -/
def RetNoMap (w w' : World) (e : Ending) : Prop := ∃ t x, e = .returned (.tuple #[.map none, .iface t x]) ∧ Below w.heap.size w w'

set_option maxRecDepth 100000 in
set_option maxHeartbeats 400000 in
theorem mapping_not (F : Interp) (p : ByteArray) (t : TypeId) (x : Value) (ht : t ≠ 26) (w : World) (hF : F.answers w.tape) : Calls Tryf.prog 23 #[.string p, .iface t x] w fun e w' => RetNoMap w w' e := by
  have tn := assertMap_no (.iface t x) (Or.inr ⟨t, x, rfl, ht⟩)
  have HF : Hid (F.answers w.tape) := hF
  clear hF ht
  go_enter Tryf.func23, Tryf.ntmps23
  go_wp2_with (go_at_call 28; refine (notMapping_any F p _ HF.out).mono ?_; rintro e w' ⟨t', x', rfl, hB⟩)
  go_ret2
  exact ⟨t', x', rfl, hB⟩

set_option maxRecDepth 100000 in
set_option maxHeartbeats 400000 in
theorem req_yes (p : ByteArray) (lb : Nat) (w : World) : Calls Tryf.prog 12 #[.string p, .iface 26 (.map (some lb))] w fun e w' => e = .returned (.tuple #[.map (some lb), .nilIface]) ∧ w = w' := by
  have qm : ∀ (w : World) (r : Option Nat), (binOp .eql 26 (.map r) (.map none)).run Tryf.prog w = .ok (.bool r.isNone) w := fun w r => run_eql_map_nil w _ _ _ r Tryf.underlying26
  go_enter Tryf.func12, Tryf.ntmps12
  go_wp2_with (go_at_call 23; refine (mapping_yes p _ _).mono ?_; rintro e w' ⟨rfl, rfl⟩)
  go_ret2
  exact ⟨rfl, rfl⟩

set_option maxRecDepth 100000 in
set_option maxHeartbeats 400000 in
theorem req_no (F : Interp) (p : ByteArray) (x : Value) (hx : NoMap x) (w : World) (hF : F.answers w.tape) : Calls Tryf.prog 12 #[.string p, x] w fun e w' => RetNoMap w w' e := by
  have qm : ∀ (w : World) (r : Option Nat), (binOp .eql 26 (.map r) (.map none)).run Tryf.prog w = .ok (.bool r.isNone) w := fun w r => run_eql_map_nil w _ _ _ r Tryf.underlying26
  have HF : Hid (F.answers w.tape) := hF
  clear hF
  rcases hx with rfl | ⟨t, y, rfl, ht⟩
  · go_enter Tryf.func12, Tryf.ntmps12
    go_wp2_with (first
      | (go_at_call 23; refine (mapping_nil p _).mono ?_; rintro e w' ⟨rfl, rfl⟩)
      | (go_at_call 24; refine (missing_any F p _ HF.out).mono ?_; rintro e w' ⟨t', x', rfl, hB⟩))
    go_ret2
    exact ⟨t', x', rfl, hB⟩
  · have HT : Hid (t ≠ 26) := ht
    clear ht
    go_enter Tryf.func12, Tryf.ntmps12
    go_wp2_with (go_at_call 23; refine (mapping_not F p t y HT.out _ HF.out).mono ?_; rintro e w' ⟨t', x', rfl, hB⟩)
    go_ret2
    exact ⟨t', x', rfl, hB⟩

set_option maxRecDepth 100000 in
set_option maxHeartbeats 400000 in
theorem dist_any (ao : Option Addr) (len cap : Nat) (es : List Ent) (w : World) (hn : es.length = len) (hreach : len * 40 ≤ 140737488355328) (hA : At w ao es) :
    Calls Tryf.prog 20 #[.slice ao len cap] w fun e w' => e = .returned (.int .i64 (cntD es)) ∧ Below w.heap.size w w' := by
  have hcl : cntD es ≤ len := hn ▸ cntD_le es
  have HA : Hid (At w ao es) := hA
  have HN : Hid (es.length = len) := hn
  clear hA hn
  go_enter Tryf.func20, Tryf.ntmps20
  go_wp2
  go_loopw [3, 4] (fun c i wr => ∃ (k cn : Nat), k ≤ len ∧ i = .int .i64 k ∧ c = .int .i64 cn ∧ cn ≤ k ∧ Hid (cn + cntD (es.drop k) = cntD es) ∧ Hid (Below w.heap.size w wr)) (fun _ i _ => len - (intOf i).toNat)
  case atStart => exact ⟨0, 0, Nat.zero_le _, rfl, rfl, Nat.le_refl _, (show 0 + cntD (es.drop 0) = cntD es by simp), Below.refl _ _⟩
  case round =>
    obtain ⟨k, cn, hk, rfl, rfl, hck, HC, HB⟩ := hrel
    by_cases hlt : k < len
    · have HS : Hid (cntD (es.drop k) = (if lastAt es k = true then 1 else 0) + cntD (es.drop (k + 1))) := cntD_step es k (by rw [HN.out]; exact hlt)
      have hl1 : Calls Tryf.prog 25 #[.slice ao len cap, .int .i64 k] wr fun e w' => e = .returned (.bool (lastAt es k)) ∧ Below wr.heap.size wr w' := last_any ao len cap k es wr HN.out hreach (HA.out.below HB.out) hlt
      cases hla : lastAt es k with
      | false =>
        rw [hla] at hl1
        have HL1 : Hid (Calls Tryf.prog 25 #[.slice ao len cap, .int .i64 k] wr fun e w' => e = .returned (.bool false) ∧ Below wr.heap.size wr w') := hl1
        have HLA : Hid (lastAt es k = false) := hla
        clear hl1 hla
        go_wp2_with (go_at_call 25; refine HL1.out.mono ?_; rintro e w2 ⟨rfl, hB2⟩; have HB2 : Hid (Below w.heap.size w w2) := HB.out.trans (hB2.mono HB.out.size); clear hB2)
        go_roundw
        case rel =>
          refine ⟨k + 1, cn, by omega, by go_num, rfl, by omega, ?_, HB2⟩
          have h1 := HC.out
          rw [HS.out, HLA.out] at h1
          show cn + cntD (es.drop (k + 1)) = cntD es
          simpa using h1
        case measure => simp [intOf]; omega
      | true =>
        rw [hla] at hl1
        have HL1 : Hid (Calls Tryf.prog 25 #[.slice ao len cap, .int .i64 k] wr fun e w' => e = .returned (.bool true) ∧ Below wr.heap.size wr w') := hl1
        have HLA : Hid (lastAt es k = true) := hla
        clear hl1 hla
        go_wp2_with (go_at_call 25; refine HL1.out.mono ?_; rintro e w2 ⟨rfl, hB2⟩; have HB2 : Hid (Below w.heap.size w w2) := HB.out.trans (hB2.mono HB.out.size); clear hB2)
        go_roundw
        case rel =>
          refine ⟨k + 1, cn + 1, by omega, by go_num, by go_num, by omega, ?_, HB2⟩
          have h1 := HC.out
          rw [HS.out, HLA.out] at h1
          show cn + 1 + cntD (es.drop (k + 1)) = cntD es
          simp at h1
          omega
        case measure => simp [intOf]; omega
    · go_wp2
      go_ret
      refine ⟨?_, HB.out⟩
      have h1 := HC.out
      rw [List.drop_eq_nil_of_le (by rw [HN.out]; omega)] at h1
      have h2 : cn = cntD es := h1
      rw [← h2]
      rfl
end Go.Proofs.Qxb6616283aFmt
