import Derived.Test.Qxb6616283aFmtBodyN
namespace Go.Proofs.Qxb6616283aFmt
open Go.RowKit Go.Maps

/-- How a label reads. -/
def Rstr (v : Value) : Option (DataW Unit × List MemPlace) :=
  match v with
  | .string s => some (.lit (.string s.data.toList), [])
  | _ => none
theorem Rstr_inv {v : Value} {y : DataW Unit × List MemPlace} (h : Rstr v = some y) : ∃ s : ByteArray, v = .string s ∧ y = (.lit (.string s.data.toList), []) := by
  cases v <;> simp [Rstr] at h
  exact ⟨_, rfl, h.symm⟩

theorem assertStr (c : Value) (y : DataW Unit × List MemPlace) (h : Rany c = some y) : ∃ (s : ByteArray) (ok : Bool), (∀ w, (Instr.typeAssert c 20 9 true).run Tryf.prog w = .ok (.tuple #[.string s, .bool ok]) w) ∧ (ok = true → y.1 = .lit (.string s.data.toList)) ∧ (ok = false → isLit y.1 = false) := by
  have hz : ∀ w, (zeroValue 9).run Tryf.prog w = .ok (.string ⟨#[]⟩) w := fun w => by kernel_rfl
  cases c <;> simp only [Rany] at h
  case nilIface =>
    cases h
    exact ⟨⟨#[]⟩, false, fun w => by simp [Instr.typeAssert, run_underlying Tryf.underlying9, hz, Result.andThen], fun e => (by cases e), fun _ => rfl⟩
  case iface t x =>
    by_cases ht : t = 9
    · subst ht
      rw [if_pos rfl] at h
      cases x <;> simp only at h
      case string s =>
        cases h
        exact ⟨s, true, fun w => by simp [Instr.typeAssert, run_underlying Tryf.underlying9], fun _ => rfl, fun e => (by cases e)⟩
      all_goals cases h
    · rw [if_neg ht] at h
      cases h
      exact ⟨⟨#[]⟩, false, fun w => by simp [Instr.typeAssert, run_underlying Tryf.underlying9, ht, hz, Result.andThen], fun e => (by cases e), fun _ => rfl⟩
  all_goals cases h

/-- The document's box and the path's block. -/
abbrev docW (w : World) (f : ByteArray) (l : Int) (v : Value) : World := (w.alloc (.cells #[.string f, .int .i64 l, v] 36)).alloc (.cells #[.string sMeta, .string sLabels] 9)
theorem docW_size (w : World) (f : ByteArray) (l : Int) (v : Value) : (docW w f l v).heap.size = w.heap.size + 1 + 1 := by simp
theorem docW_below (w : World) (f : ByteArray) (l : Int) (v : Value) : Below w.heap.size w (docW w f l v) := ((Below.refl _ _).alloc (Nat.le_refl _) _).alloc (by simp) _
theorem docW_cell (w : World) (f : ByteArray) (l : Int) (v : Value) : (docW w f l v).cell? ⟨w.heap.size + 1, 0, none⟩ = some (.string sMeta) ∧ (docW w f l v).cell? ⟨w.heap.size + 1, 1, none⟩ = some (.string sLabels) := by
  have e1 : (w.alloc (.cells #[.string f, .int .i64 l, v] 36)).heap.size = w.heap.size + 1 := by simp
  have h := heap_alloc_new (w.alloc (.cells #[.string f, .int .i64 l, v] 36)) (.cells #[.string sMeta, .string sLabels] 9)
  rw [e1] at h
  exact ⟨by rw [cell_of_row _ _ _ _ _ _ h]; rfl, by rw [cell_of_row _ _ _ _ _ _ h]; rfl⟩

/-- The labels that a document hands out. -/
def RetLab (w w' : World) (e : Ending) (len : Nat) (P : DataW Unit → Prop) : Prop := ∃ b L, e = .returned (.map (some b)) ∧ w.heap.size ≤ b ∧ w'.ownsMap Tryf.prog 9 Rstr b len L ∧ P L ∧ Below w.heap.size w w'

set_option maxRecDepth 100000 in
set_option maxHeartbeats 1000000 in
theorem labels_map (f : ByteArray) (l : Int) (v : Value) (lb len : Nat) (es : List Ent) (w : World) (hF : FieldIs w v (.iface 26 (.map (some lb)))) (hM : w.ownsMap Tryf.prog 9 Rany lb len (LM es)) (hlen : len < 1000000000000000) :
    Calls Tryf.prog 13 #[.agg #[.string f, .int .i64 l, v]] w fun e w' => RetLab w w' e len (fun L => Lab L es) := by
  have hmh := makeHint 34 9 9 Tryf.underlying34
  have ty := assertMap_yes
  have hlb := hM.lt
  have hsz := hM.size_le
  have HF : Hid (FieldIs (docW w f l v) v (.iface 26 (.map (some lb)))) := hF.below (docW_below w f l v)
  have HM : Hid ((docW w f l v).ownsMap Tryf.prog 9 Rany lb len (LM es)) := hM.kept (grown_of_below (docW_below w f l v)) (by simp)
  clear hF hM
  go_enter Tryf.func13, Tryf.ntmps13
  go_wp2_with (first
    | (go_at_call 19; refine (field_any f l v _ (w.heap.size + 1) (docW w f l v) HF.out (by simp) (docW_cell w f l v).1 (docW_cell w f l v).2).mono ?_; rintro e w3 ⟨rfl, hB3⟩; have HM3 : Hid (w3.ownsMap Tryf.prog 9 Rany lb len (LM es)) := HM.out.kept (grown_of_below hB3) (by simp); have hz3 : w.heap.size + 1 + 1 ≤ w3.heap.size := (docW_size w f l v) ▸ hB3.size; have HB3 : Hid (Below w.heap.size w w3) := (docW_below w f l v).trans (hB3.mono (by rw [docW_size]; omega)); clear hB3)
    | (at_len; refine wpList_len_own _ rfl _ 26 rfl 9 20 Tryf.underlying26 _ lb len _ rfl HM3.out ?_)
    | (at_range; refine wpList_range_own _ rfl _ 26 rfl 9 20 keyed9 Tryf.underlying26 _ lb len _ rfl (HM3.out.alloc _) ?_; intro w4 hrg4 hg4 hs4))
  go_frame
  have e1 : (w3.alloc (.map #[] 0)).heap.size = w3.heap.size + 1 := by simp
  rw [e1] at hrg4 hs4 ⊢
  have hsz4 := hs4
  obtain ⟨D, hD⟩ : ∃ D, D = LM es := ⟨_, rfl⟩
  rw [← hD] at hrg4 hsz
  have HD : Hid (D = LM es) := hD
  clear hD hs4
  have HB4 : Hid (Below w.heap.size w w4) := (HB3.out.alloc (by omega) _).grown hg4 (by simp; omega) (fun j hj => by cases hj)
  have HO4 : Hid (w4.ownsMap Tryf.prog 9 Rstr w3.heap.size 0 (.map [])) := (World.ownsMap_made w3 Tryf.prog 9 Rstr).kept hg4 (by simp)
  clear hg4
  go_loopw [6] (fun _ wr => ∃ (left : Lit → Bool) (cnt : Nat) (Dout : DataW Unit), Hid (wr.ranges Tryf.prog 9 Rany lb (w3.heap.size + 1) len D left cnt) ∧ cnt ≤ Maps.size D ∧
      Hid (wr.ownsMap Tryf.prog 9 Rstr w3.heap.size (Maps.size D - cnt) Dout) ∧ Hid (AgreeS Dout D left) ∧ Hid (Below w.heap.size w wr))
    (fun _ wr => wr.rangeLeft lb (w3.heap.size + 1))
  case atStart => exact ⟨_, _, .map [], hrg4, Nat.le_refl _, HO4.out.mono (Nat.zero_le _), agreeS_start D, HB4⟩
  case round =>
    obtain ⟨left, cnt, Dout, HR, hcs, HOut, HAg, HB⟩ := hrel
    go_wp2_with (at_next; refine wpList_next_ranges _ rfl _ rfl 9 keyed9 Rany Value.string (fun v => v) (fun key kl hk => (by obtain ⟨s, e, _⟩ := WideMaps.string_of_keyOf Tryf.underlying9 hk; exact ⟨s, e⟩)) (fun v _ _ => ⟨v, rfl⟩) lb (w3.heap.size + 1) len _ _ _ rfl HR.out ?_ ?_)
    · intro hc0 hl0
      go_wp2
      go_ret
      refine ⟨_, Dout, rfl, by omega, HOut.out.mono (by omega), agreeS_end (left := left) ?_ hl0, HB.out⟩
      rw [← HD.out]
      exact HAg.out
    · intro x c k0 y yp w5 cnt5 hkey hlk hRc hat hrg5 hlt5 hg5 hs5 hen
      obtain ⟨s, ok, hta, hok1, hok2⟩ := assertStr c (y, yp) hRc
      have HOut5 : Hid (w5.ownsMap Tryf.prog 9 Rstr w3.heap.size (Maps.size D - cnt) Dout) := HOut.out.kept hg5 (by simp)
      have HB5 : Hid (Below w.heap.size w w5) := HB.out.grown hg5 (by have := HB.out.size; omega) (fun j hj => by cases hj; omega)
      have HR5 : Hid (w5.ranges Tryf.prog 9 Rany lb (w3.heap.size + 1) len D (fun z => left z && !z.sameKey k0) cnt5) := hrg5
      have hz5 : w3.heap.size + 1 < w5.heap.size := hrg5.lt
      clear hrg5 hg5
      have HK : Hid (keyOf Tryf.prog 9 (.string x) = some k0) := hkey
      have HAt : Hid (∀ zd, D.atKey k0 zd = y) := hat
      clear hkey hat
      cases ok with
      | true =>
        have hy : Hid (y = .lit (.string s.data.toList)) := hok1 rfl
        clear hok1 hok2
        go_wp2_with (at_mapUpdate; refine wpList_mapUpdate_own _ rfl _ _ _ 34 rfl 9 9 keyed9 Tryf.underlying34 _ w3.heap.size _ _ rfl HOut5.out (by unfold maxLen; omega) _ _ _ rfl rfl HK.out (.lit (.string s.data.toList)) [] rfl ?_; intro w6 hout6 hg6; go_frame)
        have hrg6 := HR5.out.kept hg6 (fun e => by have := Option.some.inj e; omega) (fun e => by have := Option.some.inj e; omega)
        go_roundw
        case rel =>
          have hkl : WideAt.IsKeyLit k0 := keyed9.key HK.out
          refine ⟨_, cnt5, _, hrg6, by omega, hout6.mono (by omega), agreeS_put (y := .lit (.string s.data.toList)) HAg.out HOut.out.isMap hkl (fun zd => (HAt.out zd).trans hy.out) rfl, HB5.out.grown hg6 (by omega) (fun j hj => by cases hj; omega)⟩
        case measure => rw [hrg6.left_eq, HR.out.left_eq]; exact hlt5
      | false =>
        have hy : Hid (isLit y = false) := hok2 rfl
        clear hok1 hok2
        go_wp2
        go_roundw
        case rel => exact ⟨_, cnt5, _, HR5, by omega, HOut5.out.mono (by omega), agreeS_skip HAg.out hlk HAt.out hy.out, HB5⟩
        case measure => rw [HR5.out.left_eq, HR.out.left_eq]; exact hlt5

set_option maxRecDepth 100000 in
set_option maxHeartbeats 1000000 in
theorem labels_no (f : ByteArray) (l : Int) (v x : Value) (w : World) (hF : FieldIs w v x) (hx : NoMap x) :
    Calls Tryf.prog 13 #[.agg #[.string f, .int .i64 l, v]] w fun e w' => RetLab w w' e 0 (fun L => L = .map []) := by
  have hmh := makeHint 34 9 9 Tryf.underlying34
  have tn := assertMap_no x hx
  have hln : ∀ (w : World) (ty : TypeId), (Builtin.len_ #[26] ty #[.map none]).run Tryf.prog w = .ok (.int .i64 0) w := fun w ty => Maps.len_nil Tryf.underlying26 ty
  have hrn : ∀ w : World, _ := fun w => run_range_nilMap (P := Tryf.prog) w 26 9 20 Tryf.underlying26
  have HF : Hid (FieldIs (docW w f l v) v x) := hF.below (docW_below w f l v)
  clear hF hx
  go_enter Tryf.func13, Tryf.ntmps13
  go_wp2_with (go_at_call 19; refine (field_any f l v x (w.heap.size + 1) (docW w f l v) HF.out (by simp) (docW_cell w f l v).1 (docW_cell w f l v).2).mono ?_; rintro e w3 ⟨rfl, hB3⟩; have hz3 : w.heap.size + 1 + 1 ≤ w3.heap.size := (docW_size w f l v) ▸ hB3.size; have HB3 : Hid (Below w.heap.size w w3) := (docW_below w f l v).trans (hB3.mono (by rw [docW_size]; omega)); clear hB3)
  have hnx : ∀ ty, (Instr.next (.pointer (some ⟨(w3.alloc (.map #[] 0)).heap.size, 0, none⟩)) false ty).run Tryf.prog ((w3.alloc (.map #[] 0)).alloc (.mapIter none 0 #[] 0)) = _ := fun ty => run_next_nilMap _ ty 0 0 #[]
  have e1 : (w3.alloc (.map #[] 0)).heap.size = w3.heap.size + 1 := by simp
  rw [e1] at hnx
  refine wp_loop_rounds 1 ?_
  rw [rounds_succ]
  go_wp2
  go_ret
  exact ⟨_, _, rfl, by omega, (World.ownsMap_made w3 _ _ _).alloc _, rfl, (HB3.out.alloc (by omega) _).alloc (by simp; omega) _⟩
end Go.Proofs.Qxb6616283aFmt
