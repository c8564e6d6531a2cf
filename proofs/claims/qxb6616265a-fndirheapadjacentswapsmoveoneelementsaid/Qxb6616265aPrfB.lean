import Derived.Test.Qxb6616265aLawB
import Derived.ProofKit
import Derived.OpenShut
import Derived.SizedLaws
namespace Go.Proofs.Qxb6616265a
open Go.ChangeShapes Go.WideShapes Go.ChangeAt Go.RowKit

namespace PB
theorem own : ownKnob Try.prog.godebug = none := by kernel_rfl
theorem laidOut : laidOutB Try.prog = true := by kernel_rfl
theorem cells9 : Try.prog.cellsOf 9 = 1 := by kernel_rfl
theorem bytes9 : Try.prog.bytesOf 9 = 16 := by kernel_rfl

set_option maxHeartbeats 400000 in
/-- An empty slice: the size check says yes, no place lies in it. -/
theorem zz_none (ao : Option Addr) (cap : Nat) (x y : Value) (w : World) : Calls Try.prog 10 #[.slice ao 0 cap, x, y] w fun e w' => e = .returned (.bool true) ∧ w = w' := by
  go_enter Try.func10, Try.ntmps10
  go_wp2
  refine wp_loop_rounds 1 ?_
  rw [rounds_succ]
  go_wp2
  go_ret
  exact ⟨rfl, rfl⟩

set_option maxRecDepth 100000 in
set_option maxHeartbeats 400000 in
theorem law_none (ao : Option Addr) (cap : Nat) (i j : Int) (w : World) : Calls Try.prog 4 #[.slice ao 0 cap, .int .i64 i, .int .i64 j] w fun e w' => e = .returned (.bool true) ∧ w = w' := by
  by_cases h : i < 0
  · go_enter Try.func4, Try.ntmps4
    go_wp2_with (go_at_call 10; refine (zz_none ao cap _ _ _).mono ?_; rintro e w' ⟨rfl, rfl⟩)
    refine wp_loop_rounds 1 ?_
    rw [rounds_succ]
    go_wp2
    go_ret
    exact ⟨rfl, rfl⟩
  · have h' : 0 ≤ i := by omega
    go_enter Try.func4, Try.ntmps4
    go_wp2_with (go_at_call 10; refine (zz_none ao cap _ _ _).mono ?_; rintro e w' ⟨rfl, rfl⟩)
    refine wp_loop_rounds 1 ?_
    rw [rounds_succ]
    go_wp2
    go_ret
    exact ⟨rfl, rfl⟩

set_option maxRecDepth 100000 in
theorem lifted (os : Os) (started : os.Started) (H : Type) (enc : TypeId × Value → H) :
    ReturnsInHanded {} Try.checked os 4 .any (Rows.fnDirHeapAdjacentSwapsMoveOneElementSpec.pre6 enc Try.prog Try.f4 Rows.fnDirHeapAdjacentSwapsMoveOneElementRow.domain false) (Rows.fnDirHeapAdjacentSwapsMoveOneElementSpec.post enc Try.prog Try.f4 false true false false) := by
  refine returnsInHanded_of_change_sized (C := Try.checked) own started (by kernel_rfl) Try.func4
    (ChangeSpec.witness6 (enc := enc) (C := Try.checked) false ⟨#[], #[.slice none 0 0, .int .i64 0, .int .i64 0], []⟩ 8 (by kernel_rfl) (by kernel_rfl) (by kernel_rfl) (by kernel_rfl)) ?_
  intro W base args ds gs before hval0 hW _ hsz0 _
  have hsz : (DataW.weightsEach Try.prog (Try.f4.params.toList ++ Rows.fnDirHeapAdjacentSwapsMoveOneElementSpec.plain.varTypes Try.prog) (ds ++ gs)).all (· ≤ reachBytes) = true := hsz0
  clear hsz0
  have hval : ∀ (j : Nat) t v, Try.f4.params[j]? = some t → args[j]? = some v → Value.okWide Try.prog W .any base t v := hval0
  have hW' := hW
  obtain ⟨p, q, hA0, hV, rfl, _, _⟩ := hW
  have hA : DataW.TrodAll enc Try.prog W 0 (fun _ => true) true Try.f4.params.toList args.toList ds p := hA0
  rw [Try.params4] at hA hval hsz
  obtain ⟨v0, v1, v2, d0, d1, d2, p0, p1, p2, rfl, rfl, rfl, h0, h1, h2⟩ := trodAll_three hA
  obtain ⟨rfl, rfl⟩ := trodVars_none hV
  obtain ⟨a0, len, cap, rfl⟩ := okWide_slice Try.underlying22 (hval 0 22 v0 rfl rfl)
  obtain ⟨i, rfl, rfl, rfl, wi⟩ := open_int Try.underlying3 (hval 1 3 v1 rfl rfl) h1
  obtain ⟨j, rfl, rfl, rfl, wj⟩ := open_int Try.underlying3 (hval 2 3 v2 rfl rfl) h2
  have h0k := h0
  obtain ⟨fuel, hf⟩ := h0
  clear hA0 hval0
  simp only [List.append_nil] at hW'
  have hlt : ∀ x ∈ p0, x.block < W.heap.size := fun x hx => by
    have := hW'.lt x (by simpa using hx)
    exact this
  have fin : ∀ (W' : World), Below W.heap.size W W' →
      Rows.fnDirHeapAdjacentSwapsMoveOneElementSpec.post enc Try.checked.prog Try.f4 false true false false W #[.slice a0 len cap, .int .i64 i, .int .i64 j] (.bool true) W' := by
    intro W' hnx
    refine ⟨_, _, _, [], p0 ++ ([] ++ []), [], hW', ?_, ?_, rfl, hnx.frame _, fun h => by cases h⟩
    · exact trodAll_mk1 (shut_bool Try.underlying4 true)
    · exact trodAll_mk3 (Below.trod laidOut (by kernel_rfl) (of_decide_eq_true (by kernel_rfl)) h0k hnx hlt) (shut_int Try.underlying3 wi) (shut_int Try.underlying3 wj)
  have none_end : len = 0 → Calls Try.checked.prog 4 #[.slice a0 len cap, .int .i64 i, .int .i64 j] W fun e W' => ∃ v, e = Ending.returned v ∧ Rows.fnDirHeapAdjacentSwapsMoveOneElementSpec.post enc Try.checked.prog Try.f4 false true false false W #[.slice a0 len cap, .int .i64 i, .int .i64 j] v W' := by
    intro hl0
    refine ((show Calls Try.checked.prog 4 #[.slice a0 len cap, .int .i64 i, .int .i64 j] W fun e w' => e = .returned (.bool true) ∧ W = w' by rw [hl0]; exact law_none a0 cap i j W)).mono fun e W' ⟨he, hw⟩ => ?_
    subst he; subst hw
    exact ⟨_, rfl, fin _ (Below.refl _ _)⟩
  rcases open_strings Try.underlying22 Try.underlying9 cells9 hf with ⟨hcs, hx⟩ | ⟨a, len', cap', ss, hcs, _, hl, hm, hz, hx, hcell, hws⟩
  · simp [Value.cells] at hcs
    exact none_end hcs.2.1
  · simp [Value.cells] at hcs
    obtain ⟨rfl, rfl, rfl⟩ := hcs
    simp only [Prod.mk.injEq] at hx
    obtain ⟨rfl, rfl⟩ := hx
    simp only [if_true] at hz
    by_cases hl0 : len = 0
    · exact none_end hl0
    · have hreach : len * 16 ≤ 140737488351232 := by
        have := sized_slice hsz (j := 0) (t := 22) (e := 9) rfl rfl Try.underlying22
        rw [bytes9] at this
        simp only [strs, List.length_map, List.length_take, List.length_drop, reachBytes] at this
        omega
      obtain ⟨b, off, spot⟩ := a
      have hspot : spot = none := by simpa [Addr.add] using World.cell?_spot (hcell 0 (by omega))
      subst hspot
      have hbW : b < W.heap.size := hlt (.cell b off) (MemPlace.mem_row.2 ⟨0, by omega, by simp⟩)
      have hxl : (ss.take len).length = len := by simp; omega
      have hArg : Arg W b off (ss.take len) := fun t ht => by
        rw [hxl] at ht
        have := hcell t (by omega)
        rw [WideShapes.add_plain] at this
        rw [this]
        congr 2
        simp [List.getD, ht]
      refine (lawB_any b off len cap (ss.take len) i j W hxl hreach hbW hArg).mono fun e W' ⟨he, hnx⟩ => ?_
      subst he
      exact ⟨_, rfl, fin _ hnx⟩
end PB

theorem fnDirHeapAdjacentSwapsMoveOneElement_holds : Rows.FnDirHeapAdjacentSwapsMoveOneElementSaid :=
  OpenClaim.holds_of_wide 4 Try.f4 rfl rfl rfl rfl rfl rfl rfl ⟨rfl, rfl, rfl, rfl, rfl⟩ rfl rfl rfl rfl rfl (by kernel_rfl) Try.func4 (by kernel_rfl)
    (of_decide_eq_true (by kernel_rfl)) (by unfold Func.isWrapper; first | (rw [if_pos (by decide +kernel)]; kernel_rfl) | (rw [if_neg (by decide +kernel)]; exact ⟨rfl, rfl⟩))
    (fun os started H enc _ => PB.lifted os started H enc)
end Go.Proofs.Qxb6616265a
