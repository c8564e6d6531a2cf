import Derived.Test.Qxb6616283aFmtRows
import Derived.WalkKit
import Derived.WalkSpells
import Derived.WalkLawsBesides
import Derived.Maps.Ext
import Derived.Maps.RangeWalk
import Derived.Maps.OwnOps
import Derived.Maps.OwnSet
import Derived.Maps.StringElems
namespace Go.Proofs.Qxb6616283aFmt
open Go.RowKit Go.Maps

/-- One write into the labels. -/
structure Ent where
  key : ByteArray
  val : ByteArray
  kind : Int

def e0 : Ent := ⟨ByteArray.empty, ByteArray.empty, 0⟩
def kl (e : Ent) : Lit := .string e.key.data.toList
theorem kl_key (e : Ent) : WideAt.IsKeyLit (kl e) := trivial
theorem same_self (e : Ent) : (kl e).sameKey (kl e) = true := WideAt.sameKey_self (kl_key e)

/-- The last write to a key. -/
def lastOf : List Ent → Lit → Option Ent
  | [], _ => none
  | e :: es, k => match lastOf es k with
    | some x => some x
    | none => if (kl e).sameKey k then some e else none

theorem lastOf_append (a b : List Ent) (k : Lit) : lastOf (a ++ b) k = match lastOf b k with | some x => some x | none => lastOf a k := by
  induction a with
  | nil => cases h : lastOf b k <;> simp [lastOf, h]
  | cons e a ih =>
    simp only [List.cons_append, lastOf, ih]
    cases lastOf b k <;> rfl

theorem lastOf_snoc (es : List Ent) (e : Ent) (k : Lit) : lastOf (es ++ [e]) k = if (kl e).sameKey k then some e else lastOf es k := by
  rw [lastOf_append]
  simp only [lastOf]
  cases h : (kl e).sameKey k <;> simp

theorem lastOf_key {es : List Ent} {k : Lit} {e : Ent} (h : lastOf es k = some e) : kl e = k ∧ e ∈ es := by
  induction es with
  | nil => simp [lastOf] at h
  | cons x es ih =>
    simp only [lastOf] at h
    cases hx : lastOf es k with
    | some y =>
      rw [hx] at h
      simp only [Option.some.injEq] at h
      subst h
      exact ⟨(ih hx).1, List.mem_cons_of_mem _ (ih hx).2⟩
    | none =>
      rw [hx] at h
      simp only at h
      split at h
      · rename_i hs
        simp only [Option.some.injEq] at h
        subst h
        exact ⟨WideAt.sameKey_eq hs, List.mem_cons_self⟩
      · cases h

theorem lastOf_none {es : List Ent} {k : Lit} (h : lastOf es k = none) : ∀ e ∈ es, (kl e).sameKey k = false := by
  induction es with
  | nil => simp
  | cons x es ih =>
    simp only [lastOf] at h
    cases hx : lastOf es k with
    | some y => rw [hx] at h; cases h
    | none =>
      rw [hx] at h
      simp only at h
      intro e he
      rcases List.mem_cons.1 he with rfl | he
      · cases hs : (kl e).sameKey k
        · rfl
        · rw [hs] at h; simp at h
      · exact ih hx e he

theorem lastOf_none_of {es : List Ent} {k : Lit} (h : ∀ e ∈ es, (kl e).sameKey k = false) : lastOf es k = none := by
  cases hx : lastOf es k with
  | none => rfl
  | some y =>
    obtain ⟨h1, h2⟩ := lastOf_key hx
    have := h y h2
    rw [← h1, same_self] at this
    cases this

/-- Is the last write a string? -/
def strB : Option Ent → Bool
  | some e => decide (e.kind = 0)
  | none => false

/-- What a write reads as in the labels' map: a string's bytes, or something else. -/
def dv (e : Ent) : DataW Unit := if e.kind = 0 then .lit (.string e.val.data.toList) else .nil

/-- The map that the writes fill. -/
def LM (es : List Ent) : DataW Unit := es.foldl (fun m e => m.put (kl e) (dv e)) (.map [])
theorem LM_snoc (es : List Ent) (e : Ent) : LM (es ++ [e]) = (LM es).put (kl e) (dv e) := by simp [LM, List.foldl_append]

theorem put_at (D : DataW Unit) (hD : IsMap D) (e : Ent) (d z : DataW Unit) (k : Lit) : (D.put (kl e) d).atKey k z = if (kl e).sameKey k then d else D.atKey k z := by
  cases h : (kl e).sameKey k
  · rw [if_neg (by simp)]
    exact atKey_put_other (fun e1 => by rw [e1, same_self] at h; cases h) d z
  · rw [if_pos rfl, ← WideAt.sameKey_eq h]
    exact atKey_put_same hD (kl_key e) d z
theorem put_has (D : DataW Unit) (hD : IsMap D) (e : Ent) (d : DataW Unit) (k : Lit) : Maps.has (D.put (kl e) d) k = ((kl e).sameKey k || Maps.has D k) := by
  cases h : (kl e).sameKey k
  · rw [Bool.false_or]
    exact has_put_other (fun e1 => by rw [e1, same_self] at h; cases h) d
  · rw [Bool.true_or, ← WideAt.sameKey_eq h]
    exact has_put_same hD (kl_key e) d

theorem fold_isMap (f : Ent → DataW Unit) : ∀ (es : List Ent) (m : DataW Unit), IsMap m → IsMap (es.foldl (fun m e => m.put (kl e) (f e)) m)
  | [], _, h => h
  | _ :: es, _, h => fold_isMap f es _ (h.put _ _)
theorem fold_has (k : Lit) : ∀ (es : List Ent) (m : DataW Unit), IsMap m → Maps.has (es.foldl (fun m e => m.put (kl e) (dv e)) m) k = match lastOf es k with | some _ => true | none => Maps.has m k
  | [], m, _ => rfl
  | e :: es, m, h => by
    rw [List.foldl_cons, fold_has k es _ (h.put _ _), put_has m h]
    simp only [lastOf]
    cases lastOf es k with
    | some x => rfl
    | none => cases (kl e).sameKey k <;> simp
theorem fold_at (k : Lit) (z : DataW Unit) : ∀ (es : List Ent) (m : DataW Unit), IsMap m → (es.foldl (fun m e => m.put (kl e) (dv e)) m).atKey k z = match lastOf es k with | some x => dv x | none => m.atKey k z
  | [], m, _ => rfl
  | e :: es, m, h => by
    rw [List.foldl_cons, fold_at k z es _ (h.put _ _), put_at m h]
    simp only [lastOf]
    cases lastOf es k with
    | some x => rfl
    | none => cases (kl e).sameKey k <;> simp
theorem has_LM (es : List Ent) (k : Lit) : Maps.has (LM es) k = (lastOf es k).isSome := by
  rw [LM, fold_has k es _ isMap_empty]
  cases lastOf es k <;> rfl
theorem at_LM (es : List Ent) (k : Lit) (z : DataW Unit) : (LM es).atKey k z = match lastOf es k with | some x => dv x | none => z := by
  rw [LM, fold_at k z es _ isMap_empty]
  cases lastOf es k <;> rfl

/-- Does a datum of the labels' map read as a string? -/
def isLit : DataW Unit → Bool
  | .lit _ => true
  | _ => false
theorem isLit_dv (e : Ent) : isLit (dv e) = decide (e.kind = 0) := by
  unfold dv
  by_cases h : e.kind = 0
  · simp [h, isLit]
  · simp [h, isLit]

/-- L holds just the string labels that the writes leave. -/
def Lab (L : DataW Unit) (es : List Ent) : Prop := (∀ k, Maps.has L k = strB (lastOf es k)) ∧ ∀ k e, lastOf es k = some e → e.kind = 0 → ∀ z, L.atKey k z = .lit (.string e.val.data.toList)

/-- What the ranging has laid so far. -/
def AgreeS (Dout D : DataW Unit) (left : Lit → Bool) : Prop := (∀ k, Maps.has Dout k = (Maps.has D k && !left k && isLit (D.atKey k .nil))) ∧ ∀ k z, Maps.has Dout k = true → Dout.atKey k z = D.atKey k z
theorem agreeS_start (D : DataW Unit) : AgreeS (.map []) D (Maps.has D) := ⟨fun k => by cases Maps.has D k <;> rfl, fun k z h => by cases h⟩
theorem agreeS_skip {Dout D : DataW Unit} {left : Lit → Bool} {k0 : Lit} {y : DataW Unit} (h : AgreeS Dout D left) (hl : left k0 = true) (hat : ∀ zd, D.atKey k0 zd = y) (hy : isLit y = false) : AgreeS Dout D (fun z => left z && !z.sameKey k0) := by
  refine ⟨fun k => ?_, h.2⟩
  rw [h.1 k]
  cases hs : k.sameKey k0
  · simp [hs]
  · have e : k = k0 := WideAt.sameKey_eq hs
    subst e
    rw [hl, hat .nil, hy]
    simp
theorem agreeS_put {Dout D : DataW Unit} {left : Lit → Bool} {k0 : Lit} {y : DataW Unit} (h : AgreeS Dout D left) (hm : IsMap Dout) (hk : WideAt.IsKeyLit k0) (hat : ∀ zd, D.atKey k0 zd = y) (hy : isLit y = true) : AgreeS (Dout.put k0 y) D (fun z => left z && !z.sameKey k0) := by
  have hD : Maps.has D k0 = true := has_true_of_atKey hat
  refine ⟨fun k => ?_, fun k z hk' => ?_⟩
  · cases hs : k.sameKey k0
    · rw [has_put_other (fun e => by rw [e, WideAt.sameKey_self hk] at hs; cases hs), h.1 k]
      simp [hs]
    · have e : k = k0 := WideAt.sameKey_eq hs
      subst e
      rw [has_put_same hm hk, hD, hat .nil, hy]
      simp [hs]
  · cases hs : k.sameKey k0
    · have hne : k ≠ k0 := fun e => by rw [e, WideAt.sameKey_self hk] at hs; cases hs
      rw [atKey_put_other hne]
      rw [has_put_other hne] at hk'
      exact h.2 k z hk'
    · have e : k = k0 := WideAt.sameKey_eq hs
      subst e
      rw [atKey_put_same hm hk, hat z]
theorem agreeS_end {Dout : DataW Unit} {es : List Ent} {left : Lit → Bool} (h : AgreeS Dout (LM es) left) (hl : ∀ k, left k = false) : Lab Dout es := by
  have h1 : ∀ k, Maps.has Dout k = strB (lastOf es k) := fun k => by
    rw [h.1 k, has_LM, at_LM, hl k]
    cases lastOf es k with
    | none => rfl
    | some e => simp [isLit_dv, strB]
  refine ⟨h1, fun k e he h0 z => ?_⟩
  rw [h.2 k z (by rw [h1 k, he]; simp [strB, h0]), at_LM, he]
  simp [dv, h0]

/-! ### sizes -/
/-- A map's reading: no key twice, each key a key. -/
def TidyK (D : DataW Unit) : Prop := ∃ es, D = .map es ∧ es.Pairwise (fun p q => p.1 ≠ q.1) ∧ ∀ p ∈ es, WideAt.IsKeyLit p.1
theorem TidyK.tidy {D : DataW Unit} (h : TidyK D) : Tidy D := by
  obtain ⟨es, e, hp, _⟩ := h
  exact ⟨es, e, hp⟩
theorem tidyK_empty : TidyK (.map []) := ⟨[], rfl, List.Pairwise.nil, by simp⟩
theorem TidyK.put {D : DataW Unit} (h : TidyK D) {k : Lit} (hk : WideAt.IsKeyLit k) (d : DataW Unit) : TidyK (D.put k d) := by
  have ht := h.tidy.put hk d
  obtain ⟨es, rfl, hp, hl⟩ := h
  obtain ⟨es2, e2, hp2⟩ := ht
  refine ⟨es2, e2, hp2, ?_⟩
  rw [DataW.put_eq] at e2
  cases e2
  intro p hp'
  rcases ChangeMaps.mem_insert_iff.1 hp' with rfl | h1
  · exact hk
  · exact hl p (List.mem_filter.1 h1).1
theorem size_of_has : ∀ (es : List (Lit × DataW Unit)), es.Pairwise (fun p q => p.1 ≠ q.1) → (∀ p ∈ es, WideAt.IsKeyLit p.1) → ∀ D : DataW Unit, TidyK D → (∀ k, Maps.has (.map es) k = Maps.has D k) → Maps.size D = es.length
  | [], _, _, D, ⟨es2, e2, _, hl2⟩, h => by
    subst e2
    cases es2 with
    | nil => rfl
    | cons p r =>
      have := h p.1
      rw [has_eq, has_eq] at this
      simp [WideAt.sameKey_self (hl2 p List.mem_cons_self)] at this
  | p :: es, hp, hl, D, hD, h => by
    obtain ⟨h1, h2⟩ := List.pairwise_cons.1 hp
    have hpk := hl p List.mem_cons_self
    have hDp : Maps.has D p.1 = true := by
      rw [← h p.1, has_eq]
      simp [WideAt.sameKey_self hpk]
    have hdel : TidyK (D.del p.1) := by
      obtain ⟨es2, rfl, hp2, hl2⟩ := hD
      exact ⟨_, rfl, hp2.filter _, fun q hq => hl2 q (List.mem_filter.1 hq).1⟩
    have ih := size_of_has es h2 (fun q hq => hl q (List.mem_cons_of_mem _ hq)) (D.del p.1) hdel (fun k => by
      cases hs : p.1.sameKey k
      · have hne : k ≠ p.1 := fun e => by rw [e, WideAt.sameKey_self hpk] at hs; cases hs
        rw [has_del_other hne, ← h k, has_eq, has_eq, List.any_cons, hs, Bool.false_or]
      · have e := WideAt.sameKey_eq hs
        subst e
        rw [has_del_same, has_eq]
        rw [List.any_eq_false]
        intro q hq hs'
        exact h1 q hq (WideAt.sameKey_eq hs').symm)
    have hsd := size_del (k := p.1) hD.tidy
    rw [hDp] at hsd
    simp only [if_true] at hsd
    rw [List.length_cons]
    omega
theorem sizes {D1 D2 : DataW Unit} (h1 : TidyK D1) (h2 : TidyK D2) (h : ∀ k, Maps.has D1 k = Maps.has D2 k) : Maps.size D1 = Maps.size D2 := by
  obtain ⟨es, rfl, hp, hl⟩ := h1
  exact (size_of_has es hp hl D2 h2 h).symm

/-- How many string labels the writes leave, told place by place. -/
def cntS : List Ent → Nat
  | [] => 0
  | e :: es => (if ((lastOf es (kl e)).isNone && decide (e.kind = 0)) = true then 1 else 0) + cntS es
def GS : List Ent → DataW Unit
  | [] => .map []
  | e :: es => if ((lastOf es (kl e)).isNone && decide (e.kind = 0)) = true then (GS es).put (kl e) .nil else GS es
theorem GS_tidy : ∀ es, TidyK (GS es)
  | [] => tidyK_empty
  | e :: es => by
    unfold GS
    split
    · exact (GS_tidy es).put (kl_key e) _
    · exact GS_tidy es
theorem GS_has : ∀ (es : List Ent) (k : Lit), Maps.has (GS es) k = strB (lastOf es k)
  | [], _ => rfl
  | e :: es, k => by
    have ih := GS_has es
    unfold GS
    simp only [lastOf]
    cases hx : lastOf es (kl e) with
    | none =>
      by_cases h0 : e.kind = 0
      · rw [if_pos (by simp [h0]), put_has _ (GS_tidy es).tidy.isMap, ih k]
        cases hs : (kl e).sameKey k
        · cases lastOf es k <;> simp
        · have e1 := WideAt.sameKey_eq hs
          rw [← e1, hx]
          simp [strB, h0]
      · rw [if_neg (by simp [h0]), ih k]
        cases hs : (kl e).sameKey k
        · cases lastOf es k <;> simp
        · have e1 := WideAt.sameKey_eq hs
          rw [← e1, hx]
          simp [strB, h0]
    | some y =>
      rw [if_neg (by simp), ih k]
      cases hs : (kl e).sameKey k
      · cases lastOf es k <;> simp
      · have e1 := WideAt.sameKey_eq hs
        rw [← e1, hx]
theorem GS_size : ∀ es, Maps.size (GS es) = cntS es
  | [] => rfl
  | e :: es => by
    unfold GS cntS
    split
    · rename_i h
      simp only [Bool.and_eq_true, Option.isNone_iff_eq_none] at h
      rw [size_put (GS_tidy es).tidy, GS_has, h.1]
      simp only [strB, Bool.false_eq_true, if_false]
      rw [GS_size es]
      omega
    · rw [GS_size es]
      omega
theorem Lab.size {L : DataW Unit} {es : List Ent} (h : Lab L es) (ht : TidyK L) : Maps.size L = cntS es := by
  rw [← GS_size]
  exact sizes ht (GS_tidy es) (fun k => by rw [h.1 k, GS_has])
theorem cntS_le : ∀ es, cntS es ≤ es.length
  | [] => Nat.le_refl _
  | e :: es => by
    have := cntS_le es
    unfold cntS
    rw [List.length_cons]
    split <;> omega

/-- How many different keys the writes have. -/
def cntD : List Ent → Nat
  | [] => 0
  | e :: es => (if (lastOf es (kl e)).isNone = true then 1 else 0) + cntD es
def GD : List Ent → DataW Unit
  | [] => .map []
  | e :: es => if (lastOf es (kl e)).isNone = true then (GD es).put (kl e) .nil else GD es
theorem GD_tidy : ∀ es, TidyK (GD es)
  | [] => tidyK_empty
  | e :: es => by
    unfold GD
    split
    · exact (GD_tidy es).put (kl_key e) _
    · exact GD_tidy es
theorem GD_has : ∀ (es : List Ent) (k : Lit), Maps.has (GD es) k = (lastOf es k).isSome
  | [], _ => rfl
  | e :: es, k => by
    have ih := GD_has es
    unfold GD
    simp only [lastOf]
    cases hx : lastOf es (kl e) with
    | none =>
      rw [if_pos (by simp), put_has _ (GD_tidy es).tidy.isMap, ih k]
      cases hs : (kl e).sameKey k
      · cases lastOf es k <;> simp
      · have e1 := WideAt.sameKey_eq hs
        rw [← e1, hx]
        simp
    | some y =>
      rw [if_neg (by simp), ih k]
      cases hs : (kl e).sameKey k
      · cases lastOf es k <;> simp
      · have e1 := WideAt.sameKey_eq hs
        rw [← e1, hx]
theorem GD_size : ∀ es, Maps.size (GD es) = cntD es
  | [] => rfl
  | e :: es => by
    unfold GD cntD
    split
    · rename_i h
      simp only [Option.isNone_iff_eq_none] at h
      rw [size_put (GD_tidy es).tidy, GD_has, h]
      simp only [Option.isSome_none, Bool.false_eq_true, if_false]
      rw [GD_size es]
      omega
    · rw [GD_size es]
      omega
theorem LM_tidy : ∀ (es : List Ent) (m : DataW Unit), TidyK m → TidyK (es.foldl (fun m e => m.put (kl e) (dv e)) m)
  | [], _, h => h
  | e :: es, _, h => LM_tidy es _ (h.put (kl_key e) _)
theorem LM_size (es : List Ent) : Maps.size (LM es) = cntD es := by
  rw [← GD_size]
  exact sizes (LM_tidy es _ tidyK_empty) (GD_tidy es) (fun k => by rw [has_LM, GD_has])
theorem cntD_le : ∀ es, cntD es ≤ es.length
  | [] => Nat.le_refl _
  | e :: es => by
    have := cntD_le es
    unfold cntD
    rw [List.length_cons]
    split <;> omega

/-! ### place by place -/
/-- Is the write at place i the last to its key? -/
def lastAt (es : List Ent) (i : Nat) : Bool := (lastOf (es.drop (i + 1)) (kl (es.getD i e0))).isNone
theorem drop_getD (es : List Ent) (i : Nat) (h : i < es.length) : es.drop i = es.getD i e0 :: es.drop (i + 1) := by
  rw [List.drop_eq_getElem_cons h]
  simp [List.getD, List.getElem?_eq_getElem h]
theorem lastAt_of (es : List Ent) (i : Nat) (h : i < es.length) (hl : lastAt es i = true) : lastOf es (kl (es.getD i e0)) = some (es.getD i e0) := by
  have e : es = es.take i ++ es.drop i := (List.take_append_drop i es).symm
  have h1 : lastOf (es.drop i) (kl (es.getD i e0)) = some (es.getD i e0) := by
    rw [drop_getD es i h]
    simp only [lastOf]
    unfold lastAt at hl
    rw [Option.isNone_iff_eq_none] at hl
    rw [hl]
    simp [same_self]
  have h2 := lastOf_append (es.take i) (es.drop i) (kl (es.getD i e0))
  rw [← e, h1] at h2
  exact h2
theorem cntS_step (es : List Ent) (i : Nat) (h : i < es.length) : cntS (es.drop i) = (if (lastAt es i && decide ((es.getD i e0).kind = 0)) = true then 1 else 0) + cntS (es.drop (i + 1)) := by
  rw [drop_getD es i h]
  rfl
theorem cntD_step (es : List Ent) (i : Nat) (h : i < es.length) : cntD (es.drop i) = (if lastAt es i = true then 1 else 0) + cntD (es.drop (i + 1)) := by
  rw [drop_getD es i h]
  rfl

/-! ### one more write -/
theorem lab_more_has {L L2 : DataW Unit} {es : List Ent} {e : Ent} (h : Lab L es) (h2 : Lab L2 (es ++ [e])) (hk : e.kind = 0) (hm : IsMap L) : ∀ k, Maps.has L2 k = Maps.has (L.put (kl e) .nil) k := fun k => by
  rw [h2.1 k, put_has L hm, h.1 k, lastOf_snoc]
  cases (kl e).sameKey k
  · simp
  · simp [strB, hk]
theorem lab_more_size {L L2 : DataW Unit} {es : List Ent} {e : Ent} (h : Lab L es) (h2 : Lab L2 (es ++ [e])) (hk : e.kind = 0) (ht : TidyK L) (ht2 : TidyK L2) : Maps.size L2 = if Maps.has L (kl e) = true then Maps.size L else Maps.size L + 1 := by
  rw [sizes ht2 (ht.put (kl_key e) .nil) (lab_more_has h h2 hk ht.tidy.isMap), size_put ht.tidy]
theorem lab_more_same {L2 : DataW Unit} {es : List Ent} {e : Ent} (h2 : Lab L2 (es ++ [e])) (hk : e.kind = 0) : Maps.has L2 (kl e) = true ∧ ∀ z, L2.atKey (kl e) z = .lit (.string e.val.data.toList) := by
  have hl : lastOf (es ++ [e]) (kl e) = some e := by rw [lastOf_snoc, same_self]; rfl
  exact ⟨by rw [h2.1, hl]; simp [strB, hk], h2.2 _ _ hl hk⟩
theorem lab_more_other {L L2 : DataW Unit} {es : List Ent} {e : Ent} (h : Lab L es) (h2 : Lab L2 (es ++ [e])) {k : Lit} (hne : (kl e).sameKey k = false) : Maps.has L2 k = Maps.has L k ∧ (∀ z, Maps.has L k = true → L2.atKey k z = L.atKey k z) ∧ (∀ z, Maps.has L k = false → L2.atKey k z = z ∧ L.atKey k z = z) := by
  have hl : lastOf (es ++ [e]) k = lastOf es k := by rw [lastOf_snoc, hne]; rfl
  have hh : Maps.has L2 k = Maps.has L k := by rw [h2.1, h.1, hl]
  refine ⟨hh, fun z hk => ?_, fun z hk => ?_⟩
  · rw [h.1] at hk
    cases hx : lastOf es k with
    | none => rw [hx] at hk; cases hk
    | some x =>
      rw [hx] at hk
      have hx0 : x.kind = 0 := by simpa [strB] using hk
      rw [h.2 k x hx hx0 z, h2.2 k x (hl.trans hx) hx0 z]
  · exact ⟨atKey_of_not_has (hh.trans hk) z, atKey_of_not_has hk z⟩
end Go.Proofs.Qxb6616283aFmt
