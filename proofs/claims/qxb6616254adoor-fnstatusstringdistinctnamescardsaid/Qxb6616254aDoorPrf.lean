import Derived.Test.Qxb6616254aDoorWlk
import Derived.Test.Qxb6616254aDoorTie
import Derived.Test.Qxb6616254aDoorCards
import Derived.ProofKit
import Derived.LaidMore
import Derived.OpenShut
import Derived.Stop.Joined
import Derived.ChangeVars
import Derived.SevenTiedAt
namespace Go.Proofs.Qxb6616254aDoor
open Go.ChangeShapes Go.WideShapes Go.ChangeAt Go.WideMaps Go.WideElems Go.RowKit

/-- The listed variable's name and the row's own list, taken off the given row. -/
abbrev vName : String := Rows.fnStatusStringDistinctNamesSpec.vars.headD ""
abbrev laid1 : List (String × DataW Unit) := Rows.fnStatusStringDistinctNamesRow.laid

theorem own : ownKnob Tryd.prog.godebug = none := by kernel_rfl
theorem gV : Tryd.prog.globalNamed vName = some 0 := by kernel_rfl
theorem tV : (Tryd.prog.globals[0]?).map (·.type) = some 26 := by kernel_rfl
theorem c26 : Tryd.prog.cellsOf 26 = 6 := by kernel_rfl
theorem c9 : Tryd.prog.cellsOf 9 = 1 := by kernel_rfl

def cells6 : Array Value := #[.string (nm 0), .string (nm 1), .string (nm 2), .string (nm 3), .string (nm 4), .string (nm 5)]

theorem door_met (os : Os) (args : Array Value) : laidMetH Tryd.prog laid1 ((World.doorLaid Tryd.prog 400 os).forCall (fun _ _ => 0) ⟨#[], args, []⟩).memory :=
  laidMetH_of_parts3 (fuel := 8) (laidMet_of_run' 8 (by kernel_rfl) (by kernel_rfl)) (by kernel_rfl) (by kernel_rfl)

theorem of_laid {W : World} (h : laidMetH Tryd.prog laid1 W) : W.var? Tryd.prog vName = some cells6 := by
  rw [MakeChecks.laidMetH_plain _ _ _ (by kernel_rfl)] at h
  obtain ⟨ps, ⟨g0, t0, cs0, f0, p0, q0, hg0, ht0, hv0, hd0, _, _⟩, _⟩ := h
  obtain rfl := Option.some.inj (gV.symm.trans hg0)
  obtain rfl := Option.some.inj (tV.symm.trans ht0)
  refine (show W.var? Tryd.prog vName = some cs0 from hv0).trans ?_
  congr 1
  obtain ⟨xs, m1, rfl, hx1, hlen, hn6, hel⟩ := DataW.trod_array Tryd.underlying26 hd0
  simp only [Prod.mk.injEq, DataW.agg.injEq, Rows.laid_example_com_squallguard_squallguard_internal_storm_statusNames] at hx1
  rw [c26] at hlen
  rw [c9] at hel
  obtain ⟨l⟩ := cs0
  simp only at hlen hel
  match l, hlen, xs, hn6 with
  | [a0, a1, a2, a3, a4, a5], _, [x0, x1, x2, x3, x4, x5], _ =>
    have h0 := hel 0 (by decide)
    have h1 := hel 1 (by decide)
    have h2 := hel 2 (by decide)
    have h3 := hel 3 (by decide)
    have h4 := hel 4 (by decide)
    have h5 := hel 5 (by decide)
    obtain ⟨s0, e0, r0, _⟩ := DataW.trod_string Tryd.underlying9 (show DataW.trod _ Tryd.prog W 0 _ false m1 9 [a0] = some x0 from h0)
    obtain ⟨s1, e1, r1, _⟩ := DataW.trod_string Tryd.underlying9 (show DataW.trod _ Tryd.prog W 0 _ false m1 9 [a1] = some x1 from h1)
    obtain ⟨s2, e2, r2, _⟩ := DataW.trod_string Tryd.underlying9 (show DataW.trod _ Tryd.prog W 0 _ false m1 9 [a2] = some x2 from h2)
    obtain ⟨s3, e3, r3, _⟩ := DataW.trod_string Tryd.underlying9 (show DataW.trod _ Tryd.prog W 0 _ false m1 9 [a3] = some x3 from h3)
    obtain ⟨s4, e4, r4, _⟩ := DataW.trod_string Tryd.underlying9 (show DataW.trod _ Tryd.prog W 0 _ false m1 9 [a4] = some x4 from h4)
    obtain ⟨s5, e5, r5, _⟩ := DataW.trod_string Tryd.underlying9 (show DataW.trod _ Tryd.prog W 0 _ false m1 9 [a5] = some x5 from h5)
    subst r0 r1 r2 r3 r4 r5
    simp only [List.cons.injEq, and_true] at e0 e1 e2 e3 e4 e5
    subst e0 e1 e2 e3 e4 e5
    simp only [List.map_cons, List.map_nil, List.cons.injEq, DataW.lit.injEq, Lit.string.injEq, and_true] at hx1
    obtain ⟨⟨y0, y1, y2, y3, y4, y5⟩, _⟩ := hx1
    have bb : ∀ (s : ByteArray) (i : Nat), nmL i = s.data.toList → s = nm i := fun s i h => by
      obtain ⟨⟨l⟩⟩ := s
      simp only at h
      rw [nm, h]
    rw [bb s0 0 y0, bb s1 1 y1, bb s2 2 y2, bb s3 3 y3, bb s4 4 y4, bb s5 5 y5]
    rfl

abbrev tableH {H : Type} : DataW H := .agg [.lit (.string (nmL 0)), .lit (.string (nmL 1)), .lit (.string (nmL 2)), .lit (.string (nmL 3)), .lit (.string (nmL 4)), .lit (.string (nmL 5))]
theorem reads_table {H : Type} (enc : TypeId × Value → H) (W : World) (sp : Nat → Bool) : DataW.trod enc Tryd.prog W 0 sp true 3 26 cells6.toList = some (tableH, []) := by kernel_rfl

set_option maxRecDepth 100000 in
theorem lifted (os : Os) (started : os.Started) (H : Type) (enc : TypeId × Value → H) :
    ReturnsInHanded {} Tryd.checked os 3 .any (fun w args => (Rows.fnStatusStringDistinctNamesSpec.pre enc Tryd.prog Tryd.f3 [] false w args ∧ laidMetH Tryd.prog laid1 w) ∧ sizedMet enc Tryd.prog Tryd.f3 (OpenSpec.ofChange Rows.fnStatusStringDistinctNamesSpec) false w args)
      (Rows.fnStatusStringDistinctNamesSpec.post enc Tryd.prog Tryd.f3 false true false false) := by
  refine returnsInHanded_of_change_and (C := Tryd.checked) (X := fun w _ => laidMetH Tryd.prog laid1 w) (fun _ _ _ hh h => h.of_heap hh) own started (by kernel_rfl) Tryd.func3
    (ChangeSpec.witness_shaped (enc := enc) (C := Tryd.checked) (os := os) (X := fun w _ => laidMetH Tryd.prog laid1 w) false (World.doorLaid Tryd.prog 400 os) #[.int .i64 0, .int .i64 0] 8 rfl (World.shaped_of_RefB (by kernel_rfl) (by kernel_rfl)) (by kernel_rfl) (by kernel_rfl) (by kernel_rfl) (door_met os _)) ?_
  intro W base args ds gs before hval0 hW _ _ hL _
  have hval : ∀ (j : Nat) t v, Tryd.f3.params[j]? = some t → args[j]? = some v → Value.okWide Tryd.prog W .any base t v := hval0
  have hW' := hW
  obtain ⟨p, q, hA0, hV0, rfl, hfz, hnd⟩ := hW
  have hA : DataW.TrodAll enc Tryd.prog W 0 (fun _ => true) true Tryd.f3.params.toList args.toList ds p := hA0
  have hV : DataW.TrodVars enc Tryd.prog W (fun _ => true) [vName] gs q := hV0
  rw [Tryd.params3] at hA hval
  obtain ⟨v0, v1, d0, d1, p0, p1, rfl, rfl, rfl, h0, h1⟩ := trodAll_two hA
  obtain ⟨a, rfl, rfl, rfl, wa⟩ := open_int Tryd.underlying3 (hval 0 3 v0 rfl rfl) h0
  obtain ⟨b, rfl, rfl, rfl, wb⟩ := open_int Tryd.underlying3 (hval 1 3 v1 rfl rfl) h1
  obtain ⟨g, t, cs, fuel, d, p', rfl, hg, ht, hvar, hd, rfl⟩ := trodVars_one hV
  obtain rfl := Option.some.inj (gV.symm.trans hg)
  obtain rfl := Option.some.inj (tV.symm.trans ht)
  obtain rfl : cs = cells6 := Option.some.inj (hvar.symm.trans (of_laid hL))
  obtain ⟨rfl, rfl⟩ := DataW.Trod.unique (v := .agg cells6) ⟨fuel, hd⟩ ⟨3, reads_table enc W _⟩
  clear hA0 hV0 hval0
  simp only [List.append_nil] at hW'
  have hvars : ∀ sp : Nat → Bool, DataW.TrodVars enc Tryd.prog W sp [vName] [tableH] (MemPlace.row ⟨0, 0, none⟩ cells6.size ++ [] ++ []) := fun sp =>
    ⟨0, 26, cells6, 3, [], [], hg, ht, hvar, reads_table enc W sp, rfl, rfl⟩
  have hcl : ∀ i : Nat, 1 ≤ i → i ≤ 5 → W.cell? ⟨0, i, none⟩ = some (.string (nm i)) := fun i h1 h5 => by
    have := World.var?_cell hg hvar i
    rw [this]
    obtain rfl | rfl | rfl | rfl | rfl : i = 1 ∨ i = 2 ∨ i = 3 ∨ i = 4 ∨ i = 5 := by omega
    all_goals rfl
  refine (law_any a b W hcl).mono fun e W' ⟨he, hw⟩ => ?_
  subst he; subst hw
  exact ⟨_, rfl, post_of_same (pa := []) hW' (fun _ _ _ => trodAll_mk1 (shut_bool Tryd.underlying4 true)) (fun sp _ => trodAll_mk2 (shut_int Tryd.underlying3 wa) (shut_int Tryd.underlying3 wb)) (fun sp _ => hvars sp) (by simp)
      (World.keptBut_refl _ _) (fun _ => rfl) (ok_one (by kernel_rfl) rfl (okWide_bool_mk Tryd.underlying4 true))⟩

theorem fnStatusStringDistinctNames_holds : Rows.FnStatusStringDistinctNamesSaid :=
  OpenClaim.holds_of_wide 3 Tryd.f3 rfl rfl rfl rfl rfl rfl rfl ⟨rfl, rfl, rfl, rfl, rfl⟩ rfl rfl rfl rfl rfl (by kernel_rfl) Tryd.func3 (by kernel_rfl)
    (of_decide_eq_true (by kernel_rfl)) (by unfold Func.isWrapper; first | (rw [if_pos (by decide +kernel)]; kernel_rfl) | (rw [if_neg (by decide +kernel)]; exact ⟨rfl, rfl⟩))
    (fun os started H enc _ => lifted os started H enc)

theorem card_holds : Rows.FnStatusStringDistinctNamesCardSaid :=
  Claim7.holds_tied_plain_at .later [] [.data] true (true, "a8be1fa280b3525560d8b380d6dde444e6eff9430f8b59520eede2215dd5fec1") false
    fnStatusStringDistinctNames_holds (fun _ h => by cases h) (by kernel_rfl) (fun _ h => by cases h) fnStatusStringDistinctNames_row_tie rfl ⟨rfl, rfl⟩ (by kernel_rfl) rfl
    (fun f fn hf hfn => by
      obtain rfl : f = 3 := Option.some.inj ((show Tryd.prog.funcNamed Rows.fnStatusStringDistinctNamesRow.func = some 3 by kernel_rfl).symm.trans hf) |>.symm
      obtain rfl : fn = Tryd.f3 := (Option.some.inj (Tryd.func3.symm.trans hfn)).symm
      exact ⟨by kernel_rfl, fun j t ht => by
        rw [Tryd.params3] at ht
        have hm : t ∈ [3, 3] := by simpa using Array.mem_of_getElem? ht
        have hall : ([3, 3].all fun u => !Tryd.prog.wantsStandIn u) = true := by kernel_rfl
        exact (show Tryd.prog.wantsStandIn t = false by simpa using List.all_eq_true.1 hall t hm)⟩)
    (by kernel_rfl)
end Go.Proofs.Qxb6616254aDoor
