import Derived.Test.Qxb6616283aFmtLm
namespace Go.Proofs.Qxb6616283aFmt
open Go.RowKit Go.Maps

abbrev sMeta : ByteArray := ⟨#[109, 101, 116, 97, 100, 97, 116, 97]⟩
abbrev sLabels : ByteArray := ⟨#[108, 97, 98, 101, 108, 115]⟩

/-- m[k] is x, in this world and in every later one. -/
def LookL (w : World) (m : Value) (k : ByteArray) (x : Value) : Prop := ∀ w', Below w.heap.size w w' → (Instr.lookup 26 m (.string k) false).run Tryf.prog w' = .ok x w'
theorem LookL.below {w w' : World} {m x : Value} {k : ByteArray} (h : LookL w m k x) (hb : Below w.heap.size w w') : LookL w' m k x := fun w2 h2 => h w2 (hb.trans (h2.mono hb.size))

/-- x is no mapping. -/
def NoMap (x : Value) : Prop := x = .nilIface ∨ ∃ t y, x = .iface t y ∧ t ≠ 26

/-- What Field gives at metadata.labels of the body v. -/
def FieldIs (w : World) (v x : Value) : Prop := ∃ x1, LookL w v sMeta x1 ∧ ((∃ m2, x1 = .iface 26 m2 ∧ LookL w m2 sLabels x) ∨ (NoMap x1 ∧ x = .nilIface))
theorem FieldIs.below {w w' : World} {v x : Value} (h : FieldIs w v x) (hb : Below w.heap.size w w') : FieldIs w' v x := by
  obtain ⟨x1, h1, h2⟩ := h
  refine ⟨x1, h1.below hb, ?_⟩
  rcases h2 with ⟨m2, e, h2⟩ | h2
  · exact Or.inl ⟨m2, e, h2.below hb⟩
  · exact Or.inr h2

theorem assertMap_yes (m : Value) (w : World) : (Instr.typeAssert (.iface 26 m) 20 26 true).run Tryf.prog w = .ok (.tuple #[m, .bool true]) w := by
  simp [Instr.typeAssert, run_underlying Tryf.underlying26]
theorem zeroMap (w : World) : (zeroValue 26).run Tryf.prog w = .ok (.map none) w := by kernel_rfl
theorem assertMap_no (x : Value) (h : NoMap x) (w : World) : (Instr.typeAssert x 20 26 true).run Tryf.prog w = .ok (.tuple #[.map none, .bool false]) w := by
  rcases h with rfl | ⟨t, y, rfl, ht⟩
  · simp [Instr.typeAssert, run_underlying Tryf.underlying26, Result.andThen]
  · simp [Instr.typeAssert, run_underlying Tryf.underlying26, ht, Result.andThen]

set_option maxRecDepth 100000 in
set_option maxHeartbeats 1000000 in
theorem field_any (f : ByteArray) (l : Int) (v x : Value) (pb : Nat) (w : World) (hF : FieldIs w v x) (hpb : pb < w.heap.size)
    (p0 : w.cell? ⟨pb, 0, none⟩ = some (.string sMeta)) (p1 : w.cell? ⟨pb, 1, none⟩ = some (.string sLabels)) :
    Calls Tryf.prog 19 #[.agg #[.string f, .int .i64 l, v], .slice (some ⟨pb, 0, none⟩) 2 2] w fun e w' => e = .returned x ∧ Below w.heap.size w w' := by
  obtain ⟨x1, h1, h2⟩ := hF
  have e1 := h1 (w.alloc (.cells #[.string f, .int .i64 l, v] 36)) ((Below.refl _ _).alloc (Nat.le_refl _) _)
  have ty := assertMap_yes
  clear h1
  rcases h2 with ⟨m2, rfl, h2⟩ | ⟨hno, rfl⟩
  · have e2 := h2 (w.alloc (.cells #[.string f, .int .i64 l, v] 36)) ((Below.refl _ _).alloc (Nat.le_refl _) _)
    clear h2
    go_enter Tryf.func19, Tryf.ntmps19
    go_wp2
    refine wp_loop_rounds 3 ?_
    rw [rounds_succ]
    go_wp2
    rw [rounds_succ]
    go_wp2
    rw [rounds_succ]
    go_wp2
    go_ret
    exact ⟨rfl, (Below.refl _ _).alloc (Nat.le_refl _) _⟩
  · have tn := assertMap_no x1 hno
    clear hno
    go_enter Tryf.func19, Tryf.ntmps19
    go_wp2
    refine wp_loop_rounds 3 ?_
    rw [rounds_succ]
    go_wp2
    rw [rounds_succ]
    go_wp2
    go_ret
    exact ⟨rfl, (Below.refl _ _).alloc (Nat.le_refl _) _⟩
end Go.Proofs.Qxb6616283aFmt
