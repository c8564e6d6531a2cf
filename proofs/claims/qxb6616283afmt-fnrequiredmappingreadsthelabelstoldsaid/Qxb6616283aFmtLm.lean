import Derived.Test.Qxb6616283aFmtMk
import Derived.Deep.RegionHeld3
namespace Go.Proofs.Qxb6616283aFmt
open Go.RowKit Go.Maps

theorem makeHint (t : TypeId) (kt et : TypeId) (ht : Tryf.prog.underlying t = some (.map kt et)) (w : World) (n : Int) : (Instr.makeMap t (some (.int .i64 n))).run Tryf.prog w = .ok (.map (some w.heap.size)) (w.alloc (.map #[] 0)) := by
  simp [Instr.makeMap, run_underlying ht, asInt, newObj, Result.andThen]
  rfl

theorem LM_take (es : List Ent) (k : Nat) (h : k < es.length) : LM (es.take (k + 1)) = (LM (es.take k)).put (kl (es.getD k e0)) (dv (es.getD k e0)) := by
  rw [List.take_succ_eq_append_getElem h, LM_snoc]
  simp [List.getD, List.getElem?_eq_getElem h]

set_option maxRecDepth 100000 in
set_option maxHeartbeats 1000000 in
theorem lmap_any (ao : Option Addr) (len cap : Nat) (es : List Ent) (w : World) (hn : es.length = len) (hreach : len * 40 ≤ 140737488355328) (hok : EOk es) (hA : At w ao es) :
    Calls Tryf.prog 21 #[.slice ao len cap] w fun e w' => e = .returned (.map (some w.heap.size)) ∧ w'.ownsMap Tryf.prog 9 Rany w.heap.size len (LM es) ∧ Below w.heap.size w w' := by
  have HA : Hid (At w ao es) := hA
  have HN : Hid (es.length = len) := hn
  have HO : Hid (EOk es) := hok
  clear hA hn hok
  have hmh := makeHint 26 9 20 Tryf.underlying26
  go_enter Tryf.func21, Tryf.ntmps21
  go_wp2
  go_loopw [4] (fun i wr => ∃ k : Nat, k ≤ len ∧ i = .int .i64 k ∧ Hid (wr.ownsMap Tryf.prog 9 Rany w.heap.size k (LM (es.take k))) ∧ Hid (Below w.heap.size w wr)) (fun i _ => len - (intOf i).toNat)
  case atStart => exact ⟨0, Nat.zero_le _, rfl, World.ownsMap_made _ _ _ _, (Below.refl _ _).alloc (Nat.le_refl _) _⟩
  case round =>
    obtain ⟨k, hk, rfl, HM, HB⟩ := hrel
    by_cases hlt : k < len
    · obtain ⟨b, off, rfl, hb, hE⟩ := HA.out (by rw [HN.out]; omega)
      obtain ⟨c1, c2, c3⟩ := (hE.below HB.out hb) k (by rw [HN.out]; exact hlt)
      clear hE
      have hmem := getD_mem es k (by rw [HN.out]; exact hlt)
      have HT : Hid (LM (es.take (k + 1)) = (LM (es.take k)).put (kl (es.getD k e0)) (dv (es.getD k e0))) := LM_take es k (by rw [HN.out]; exact hlt)
      have HK : Hid ((es.getD k e0).key.size ≤ maxLen) := (HO.out _ hmem).1
      clear hmem
      obtain ⟨en, hen⟩ : ∃ x, x = es.getD k e0 := ⟨_, rfl⟩
      rw [← hen] at c1 c2 c3 HT HK
      clear hen
      have hBw : w.heap.size < wr.heap.size := HM.out.lt
      have hbr : b < wr.heap.size := by omega
      go_wp2
      go_region_held3 (fun w' => w'.cell? ⟨b, off + k * 3, none⟩ = some (.string en.key) ∧ w'.cell? ⟨b, off + k * 3 + 1, none⟩ = some (.string en.val) ∧ w'.cell? ⟨b, off + k * 3 + 2, none⟩ = some (.int .u8 en.kind)) (go_keep)
        ((go_at_call 27; refine (lval_any en _ _).mono ?_; rintro e w2 ⟨v, rfl, hRv, hB2⟩; have g1 : w2.cell? ⟨b, off + k * 3, none⟩ = some (.string en.key) := (hB2.cell (by exact hbr)).trans c1; have g2 : w2.cell? ⟨b, off + k * 3 + 1, none⟩ = some (.string en.val) := (hB2.cell (by exact hbr)).trans c2; have g3 : w2.cell? ⟨b, off + k * 3 + 2, none⟩ = some (.int .u8 en.kind) := (hB2.cell (by exact hbr)).trans c3; obtain ⟨w3, hup, hown3, hg3⟩ := (World.ownsMap.kept (w' := w2) (row := none) HM.out ⟨hB2.os, hB2.tape, hB2.output, hB2.size, fun i hi _ => hB2.block i hi⟩ (by simp)).update keyed9 Tryf.underlying26 (by unfold maxLen; omega) (key := .string en.key) (val := v) (WideMaps.keyOf_string_mk Tryf.underlying9 HK.out) hRv; have g4 : w3.cell? ⟨b, off + k * 3, none⟩ = some (.string en.key) := hg3.cell g1 (by simp; omega); have g5 : w3.cell? ⟨b, off + k * 3 + 1, none⟩ = some (.string en.val) := hg3.cell g2 (by simp; omega); have g6 : w3.cell? ⟨b, off + k * 3 + 2, none⟩ = some (.int .u8 en.kind) := hg3.cell g3 (by simp; omega); have HM3 : Hid (w3.ownsMap Tryf.prog 9 Rany w.heap.size (k + 1) ((LM (es.take k)).put (kl en) (dv en))) := hown3; have HB3 : Hid (Below w.heap.size w w3) := (HB.out.drew.trans (hB2.mono (by exact Nat.le_of_lt hBw))).grown hg3 (by have := hB2.size; have : wr.heap.size ≤ w2.heap.size := hB2.size; omega) (fun j hj => by cases hj; exact Nat.le_refl _); clear hown3 hg3 hB2 hRv))
      all_goals go_wp2
      go_roundw
      case rel => exact ⟨k + 1, by omega, by go_num, by rw [HT.out]; exact HM3, HB3⟩
      case measure => simp [intOf]; omega
    · go_wp2
      go_ret
      have e3 : k = len := by omega
      refine ⟨rfl, ?_, HB.out⟩
      have h4 := HM.out
      rw [e3, List.take_of_length_le (by rw [HN.out]; exact Nat.le_refl _)] at h4
      exact h4

set_option maxRecDepth 100000 in
set_option maxHeartbeats 1000000 in
theorem slab_any (ao : Option Addr) (len cap : Nat) (es : List Ent) (w : World) (hn : es.length = len) (hreach : len * 40 ≤ 140737488355328) (hok : EOk es) (hA : At w ao es) :
    Calls Tryf.prog 22 #[.slice ao len cap] w fun e w' => e = .returned (.map (some w.heap.size)) ∧ Below w.heap.size w w' := by
  have HA : Hid (At w ao es) := hA
  have HN : Hid (es.length = len) := hn
  have HO : Hid (EOk es) := hok
  clear hA hn hok
  have hmh := makeHint 34 9 9 Tryf.underlying34
  go_enter Tryf.func22, Tryf.ntmps22
  go_wp2
  go_loopw [4] (fun i wr => ∃ (k : Nat) (D : DataW Unit), k ≤ len ∧ i = .int .i64 k ∧ Hid (wr.ownsMap Tryf.prog 9 (fun _ => some ((.nil : DataW Unit), [])) w.heap.size k D) ∧ Hid (Below w.heap.size w wr)) (fun i _ => len - (intOf i).toNat)
  case atStart => exact ⟨0, _, Nat.zero_le _, rfl, World.ownsMap_made _ _ _ _, (Below.refl _ _).alloc (Nat.le_refl _) _⟩
  case round =>
    obtain ⟨k, D, hk, rfl, HM, HB⟩ := hrel
    by_cases hlt : k < len
    · obtain ⟨b, off, rfl, hb, hE⟩ := HA.out (by rw [HN.out]; omega)
      obtain ⟨c1, c2, c3⟩ := (hE.below HB.out hb) k (by rw [HN.out]; exact hlt)
      clear hE c3
      have hmem := getD_mem es k (by rw [HN.out]; exact hlt)
      have HK : Hid ((es.getD k e0).key.size ≤ maxLen) := (HO.out _ hmem).1
      clear hmem
      obtain ⟨en, hen⟩ : ∃ x, x = es.getD k e0 := ⟨_, rfl⟩
      rw [← hen] at c1 c2 HK
      clear hen
      obtain ⟨w3, hup, hown3, hg3⟩ := HM.out.drew.update keyed9 Tryf.underlying34 (by unfold maxLen; omega) (key := .string en.key) (val := .string en.val) (WideMaps.keyOf_string_mk Tryf.underlying9 HK.out) rfl
      have HM3 : Hid (w3.ownsMap Tryf.prog 9 (fun _ => some ((.nil : DataW Unit), [])) w.heap.size (k + 1) (D.put (.string en.key.data.toList) .nil)) := hown3
      have hBw : w.heap.size < wr.heap.size := HM.out.lt
      have HB3 : Hid (Below w.heap.size w w3) := HB.out.drew.grown hg3 (by exact Nat.le_of_lt hBw) (fun j hj => by cases hj; exact Nat.le_refl _)
      have g4 : w3.cell? ⟨b, off + k * 3, none⟩ = some (.string en.key) := hg3.cell c1 (by simp; omega)
      have g5 : w3.cell? ⟨b, off + k * 3 + 1, none⟩ = some (.string en.val) := hg3.cell c2 (by simp; omega)
      clear hown3 hg3
      go_wp2
      go_region_held3 (fun w' => w'.cell? ⟨b, off + k * 3, none⟩ = some (.string en.key) ∧ w'.cell? ⟨b, off + k * 3 + 1, none⟩ = some (.string en.val)) (go_keep) (fail)
      all_goals go_wp2
      go_roundw
      case rel => exact ⟨k + 1, _, by omega, by go_num, HM3, HB3⟩
      case measure => simp [intOf]; omega
    · go_wp2
      go_ret
      exact ⟨rfl, HB.out⟩
end Go.Proofs.Qxb6616283aFmt
