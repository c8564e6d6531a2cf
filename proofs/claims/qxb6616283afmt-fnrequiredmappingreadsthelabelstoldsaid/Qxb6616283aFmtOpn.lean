import Derived.Test.Qxb6616283aFmtMem
import Derived.ProofKit
import Derived.OpenShut
import Derived.SizedLaws
import Derived.Deep.Slices
import Derived.Deep.Strs
namespace Go.Proofs.Qxb6616283aFmt
open Go.ChangeShapes Go.WideShapes Go.ChangeAt Go.RowKit

theorem own : ownKnob Tryf.prog.godebug = none := by kernel_rfl
theorem laidOut : laidOutB Tryf.prog = true := by kernel_rfl
theorem cellsE : Tryf.prog.cellsOf 45 = 3 := by kernel_rfl
theorem cells9 : Tryf.prog.cellsOf 9 = 1 := by kernel_rfl
theorem cells5 : Tryf.prog.cellsOf 5 = 1 := by kernel_rfl
theorem bytesE : Tryf.prog.bytesOf 45 = 40 := by kernel_rfl

/-- The argument 'entries', opened. -/
theorem open_entries {H : Type} {enc : TypeId × Value → H} {W : World} {base : Nat} {sp : Nat → Bool} {held : Bool} {fuel : Nat} {ao : Option Addr} {len cap : Nat} {d : DataW H} {pl : List MemPlace}
    (h : DataW.trod enc Tryf.prog W base sp held fuel 22 [.slice ao len cap] = some (d, pl)) (hlt : ∀ p ∈ pl, p.block < W.heap.size) :
    ∃ es : List Ent, es.length = len ∧ EOk es ∧ At W ao es ∧ ((d = .nil ∧ len = 0) ∨ ∃ el spr, d = .slice el spr ∧ el.length = len) := by
  rcases Deep.open_slice Tryf.underlying22 h with ⟨hcs, hx⟩ | ⟨a, len', cap', m, n, D, Pl, hcs, _, hl, _, hm, hx, hE⟩
  · simp only [List.cons.injEq, Value.slice.injEq, and_true] at hcs
    obtain ⟨rfl, rfl, rfl⟩ := hcs
    simp only [Prod.mk.injEq] at hx
    exact ⟨[], rfl, fun e he => by simp at he, fun hp => by simp at hp, Or.inl ⟨hx.1, rfl⟩⟩
  · simp only [List.cons.injEq, Value.slice.injEq, and_true] at hcs
    obtain ⟨rfl, rfl, rfl⟩ := hcs
    simp only [Prod.mk.injEq] at hx
    have hlm : len ≤ m := by rw [hm]; split <;> omega
    have each : ∀ i, i < len → ∃ q : ByteArray × ByteArray × Int, W.cell? (a.add (i * 3)) = some (.string q.1) ∧ W.cell? (a.add (i * 3 + 1)) = some (.string q.2.1) ∧ W.cell? (a.add (i * 3 + 2)) = some (.int .u8 q.2.2) ∧ q.1.size ≤ maxLen ∧ q.2.1.size ≤ maxLen ∧ (Lit.int .u8 q.2.2).wf = true := by
      intro i hi
      obtain ⟨cs', h1, h2⟩ := hE i (by omega)
      rw [cellsE] at h1
      obtain ⟨_, hlen, hcell⟩ := World.cells?_some h1
      obtain ⟨y0, y1, y2, n', _, _, t0, t1, t2⟩ := Deep.trod_struct3 Tryf.underlying45 h2
      match cs', hlen with
      | [v0, v1, v2], _ =>
        obtain ⟨s0, e0, _, w0⟩ := DataW.trod_string Tryf.underlying9 (show DataW.trod enc Tryf.prog W base sp held n' 9 [v0] = some y0 from t0)
        obtain ⟨s1, e1, _, w1⟩ := DataW.trod_string Tryf.underlying9 (show DataW.trod enc Tryf.prog W base sp held n' 9 [v1] = some y1 from t1)
        obtain ⟨k2, e2, _, w2⟩ := DataW.trod_int Tryf.underlying5 (show DataW.trod enc Tryf.prog W base sp held n' 5 [v2] = some y2 from t2)
        simp only [List.cons.injEq, and_true] at e0 e1 e2
        subst e0 e1 e2
        have c0 := hcell 0 (by omega)
        have c1 := hcell 1 (by omega)
        have c2 := hcell 2 (by omega)
        rw [Deep.add_add] at c0 c1 c2
        exact ⟨(s0, s1, k2), by simpa using c0, by simpa using c1, by simpa using c2, w0, w1, w2⟩
    obtain ⟨q, hq⟩ := Deep.choose_lt each
    have hg : ∀ i, i < len → ((List.range len).map (fun i => (⟨(q i).1, (q i).2.1, (q i).2.2⟩ : Ent))).getD i e0 = ⟨(q i).1, (q i).2.1, (q i).2.2⟩ := fun i hi => by
      simp [List.getD, hi]
    refine ⟨(List.range len).map (fun i => ⟨(q i).1, (q i).2.1, (q i).2.2⟩), by simp, ?_, ?_, Or.inr ⟨_, _, hx.1, by simp⟩⟩
    · intro e he
      obtain ⟨i, hi, rfl⟩ := List.mem_map.1 he
      have hi' : i < len := by simpa using hi
      obtain ⟨_, _, _, w0, w1, w2⟩ := hq i hi'
      simp [Lit.wf] at w2
      have h1 : IntKind.u8.min = 0 := rfl
      have h2 : IntKind.u8.max = 255 := rfl
      exact ⟨w0, w1, (by omega : (0 : Int) ≤ (q i).2.2), (by omega : (q i).2.2 ≤ 255)⟩
    · intro hp
      have hp' : 0 < len := by simpa using hp
      obtain ⟨b, off, spot⟩ := a
      have hspot : spot = none := by simpa [Addr.add] using World.cell?_spot (hq 0 hp').1
      subst hspot
      refine ⟨b, off, rfl, hlt (.cell b off) ?_, ?_⟩
      · rw [hx.2, cellsE]
        exact List.mem_append_left _ (MemPlace.mem_row.2 ⟨0, by omega, by simp⟩)
      · intro i hi
        have hi' : i < len := by simpa using hi
        rw [hg i hi']
        obtain ⟨c0, c1, c2, _⟩ := hq i hi'
        rw [WideShapes.add_plain] at c0 c1 c2
        exact ⟨c0, by rw [← c1, Nat.add_assoc], by rw [← c2, Nat.add_assoc]⟩
end Go.Proofs.Qxb6616283aFmt
