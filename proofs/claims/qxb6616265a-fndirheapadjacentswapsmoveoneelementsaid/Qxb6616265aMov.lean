import Derived.Test.Qxb6616265aByt
namespace Go.Proofs.Qxb6616265a
open Go.RowKit

/-- The element from place x carried to place k, its neighbours moved up or down by one. -/
def mvG (xs : List ByteArray) (x k p : Nat) : ByteArray :=
  if p = k then xs.getD x ByteArray.empty else if x ≤ p ∧ p < k then xs.getD (p + 1) ByteArray.empty else if k < p ∧ p ≤ x then xs.getD (p - 1) ByteArray.empty else xs.getD p ByteArray.empty

def Mv (xs : List ByteArray) (x k : Nat) (ys : List ByteArray) : Prop := ys.length = xs.length ∧ ∀ p, p < xs.length → ys.getD p ByteArray.empty = mvG xs x k p

theorem mv_start (xs : List ByteArray) (x : Nat) : Mv xs x x xs := by
  refine ⟨rfl, fun p _ => ?_⟩
  unfold mvG
  by_cases h : p = x
  · rw [if_pos h, h]
  · rw [if_neg h, if_neg (by omega), if_neg (by omega)]

theorem mv_up (xs ys : List ByteArray) (x k : Nat) (h : Mv xs x k ys) (hk : k + 1 < xs.length) (hx : x ≤ k) : Mv xs x (k + 1) (swp ys k (k + 1)) := by
  obtain ⟨hl, hp⟩ := h
  refine ⟨by rw [swp_len, hl], fun p hp' => ?_⟩
  rw [swp_get ys k (k + 1) p (by omega) (by omega)]
  by_cases h1 : p = k + 1
  · rw [if_pos h1, hp k (by omega)]
    unfold mvG
    rw [if_pos rfl, if_pos h1]
  · rw [if_neg h1]
    by_cases h2 : p = k
    · rw [if_pos h2, hp (k + 1) hk]
      unfold mvG
      rw [if_neg (by omega), if_neg (by omega), if_neg (by omega), if_neg h1, if_pos (by omega), h2]
    · rw [if_neg h2, hp p hp']
      unfold mvG
      rw [if_neg h2, if_neg h1]
      by_cases h3 : x ≤ p ∧ p < k
      · rw [if_pos h3, if_pos (by omega)]
      · rw [if_neg h3, if_neg (by omega : ¬ (x ≤ p ∧ p < k + 1)), if_neg (by omega), if_neg (by omega)]

theorem mv_down (xs ys : List ByteArray) (x k : Nat) (h : Mv xs x (k + 1) ys) (hx : k + 1 ≤ x) (hxl : x < xs.length) : Mv xs x k (swp ys k (k + 1)) := by
  obtain ⟨hl, hp⟩ := h
  refine ⟨by rw [swp_len, hl], fun p hp' => ?_⟩
  rw [swp_get ys k (k + 1) p (by omega) (by omega)]
  by_cases h1 : p = k + 1
  · rw [if_pos h1, hp k (by omega)]
    unfold mvG
    rw [if_neg (by omega), if_neg (by omega), if_neg (by omega), if_neg (by omega), if_neg (by omega), if_pos (by omega), h1]
    rfl
  · rw [if_neg h1]
    by_cases h2 : p = k
    · rw [if_pos h2, hp (k + 1) (by omega)]
      unfold mvG
      rw [if_pos rfl, if_pos h2]
    · rw [if_neg h2, hp p hp']
      unfold mvG
      rw [if_neg h2, if_neg h1, if_neg (by omega : ¬ (x ≤ p ∧ p < k + 1)), if_neg (by omega : ¬ (x ≤ p ∧ p < k))]
      by_cases h3 : k + 1 < p ∧ p ≤ x
      · rw [if_pos h3, if_pos (by omega)]
      · rw [if_neg h3, if_neg (by omega)]

/-- The elements before place k but the one at x. -/
def rst (xs : List ByteArray) (x k : Nat) : List ByteArray := (xs.take k).eraseIdx x

theorem take_snoc' (xs : List ByteArray) (k : Nat) (h : k < xs.length) : xs.take (k + 1) = xs.take k ++ [xs.getD k ByteArray.empty] := by
  rw [List.take_succ_eq_append_getElem h]
  simp [List.getD, List.getElem?_eq_getElem h]
theorem rst_zero (xs : List ByteArray) (x : Nat) : rst xs x 0 = [] := by simp [rst]
theorem rst_hit (xs : List ByteArray) (x : Nat) (h : x < xs.length) : rst xs x (x + 1) = rst xs x x := by
  unfold rst
  rw [take_snoc' xs x h, List.eraseIdx_append_of_length_le (by simp; omega), List.eraseIdx_of_length_le (l := xs.take x) (by simp; omega)]
  have e : x - (xs.take x).length = 0 := by simp; omega
  rw [e]
  simp
theorem rst_miss (xs : List ByteArray) (x k : Nat) (h : k < xs.length) (hk : k ≠ x) : rst xs x (k + 1) = rst xs x k ++ [xs.getD k ByteArray.empty] := by
  unfold rst
  rw [take_snoc' xs k h]
  by_cases h1 : x < k
  · rw [List.eraseIdx_append_of_lt_length (by simp; omega)]
  · rw [List.eraseIdx_of_length_le (by simp; omega), List.eraseIdx_of_length_le (by simp; omega)]
theorem rst_len (xs : List ByteArray) (x k : Nat) (hk : k ≤ xs.length) : (rst xs x k).length = if x < k then k - 1 else k := by
  unfold rst
  rw [List.length_eraseIdx]
  simp only [List.length_take, Nat.min_eq_left hk]
theorem rst_le (xs : List ByteArray) (x k : Nat) (hk : k ≤ xs.length) : (rst xs x k).length ≤ k := by
  rw [rst_len xs x k hk]; split <;> omega
theorem rst_get (xs : List ByteArray) (x p : Nat) : (rst xs x xs.length).getD p ByteArray.empty = if p < x then xs.getD p ByteArray.empty else xs.getD (p + 1) ByteArray.empty := by
  unfold rst
  rw [List.take_length]
  simp only [List.getD_eq_getElem?_getD, List.getElem?_eraseIdx]
  split <;> rfl

/-- The model: taken out at x, put back in at y. -/
def wantL (xs : List ByteArray) (x y : Nat) : List ByteArray := ((rst xs x xs.length).take y ++ [xs.getD x ByteArray.empty]) ++ (rst xs x xs.length).drop y

theorem want_len (xs : List ByteArray) (x y : Nat) (hx : x < xs.length) (hy : y < xs.length) : (wantL xs x y).length = xs.length := by
  have := rst_len xs x xs.length (Nat.le_refl _)
  rw [if_pos hx] at this
  simp [wantL, this]
  omega

theorem want_get (xs : List ByteArray) (x y p : Nat) (hx : x < xs.length) (hy : y < xs.length) : (wantL xs x y).getD p ByteArray.empty = mvG xs x y p := by
  have hl := rst_len xs x xs.length (Nat.le_refl _)
  rw [if_pos hx] at hl
  have ht : ((rst xs x xs.length).take y).length = y := by simp [hl]; omega
  unfold wantL mvG
  by_cases h1 : p = y
  · rw [if_pos h1, List.getD_eq_getElem?_getD, List.getElem?_append_left (by simp [ht]; omega), List.getElem?_append_right (by rw [ht]; omega), ht, h1]
    simp
  · rw [if_neg h1]
    by_cases h2 : p < y
    · rw [List.getD_eq_getElem?_getD, List.getElem?_append_left (by simp [ht]; omega), List.getElem?_append_left (by rw [ht]; omega), List.getElem?_take, if_pos h2, ← List.getD_eq_getElem?_getD, rst_get xs x p]
      by_cases h3 : p < x
      · rw [if_pos h3, if_neg (by omega), if_neg (by omega)]
      · rw [if_neg h3, if_pos (by omega)]
    · have e : ((rst xs x xs.length).take y ++ [xs.getD x ByteArray.empty]).length = y + 1 := by simp [ht]
      rw [List.getD_eq_getElem?_getD, List.getElem?_append_right (by rw [e]; omega), e, List.getElem?_drop, ← List.getD_eq_getElem?_getD, rst_get xs x _, show y + (p - (y + 1)) = p - 1 by omega, if_neg (by omega : ¬ (x ≤ p ∧ p < y))]
      by_cases h3 : p - 1 < x
      · rw [if_pos h3, if_pos (by omega)]
      · rw [if_neg h3, if_neg (by omega), show p - 1 + 1 = p by omega]
namespace B
/-- copy(c, h) into the row that make has just laid. -/
theorem copy_step (w1 : World) (g b off len cap : Nat) (xs : List ByteArray) (cur : List Value) (hn : xs.length = len) (hg : w1.heap[g]? = some (.cells cur.toArray 9 (0, 0))) (hcur : cur.length = len) (hA : Arg w1 b off xs) :
    ∃ w2, (Builtin.copy_ #[22, 22] 3 #[.slice (some ⟨g, 0, none⟩) len len, .slice (some ⟨b, off, none⟩) len cap]).run Try.prog w1 = .ok (.int .i64 len) w2 ∧ Row w2 g xs ∧ Below g w1 w2 ∧ w2.heap.size = w1.heap.size := by
  have hsz : (Try.prog.info? 9).map (·.size) = some 1 := by kernel_rfl
  have hr := run_copy_row (P := Try.prog) w1 22 22 3 9 g 0 len len ⟨b, off, none⟩ len cap cur.toArray 9 (strv xs) Try.underlying22 hsz hg (by rw [strv_len, hn]; simp) (fun j v hv => by
      have hj : j < xs.length := by rw [← strv_len]; exact (List.getElem?_eq_some_iff.1 hv).1
      rw [strv_get xs j hj] at hv
      rw [← Option.some.inj hv, show (⟨b, off, none⟩ : Addr).add j = ⟨b, off + j, none⟩ by unfold Addr.add; split <;> simp_all]
      exact hA j hj) (by simp [strv_len]; omega) (fun v hv => by
      obtain ⟨s, _, rfl⟩ := List.mem_map.1 hv
      rfl)
  rw [strv_len, hn] at hr
  refine ⟨_, hr, ?_, ⟨rfl, rfl, rfl, by simp [World.setRow], fun k hk => setRow_other w1 g k _ (by omega)⟩, by simp [World.setRow]⟩
  unfold Row
  rw [setRow_heap w1 g _ _ 9 _ hg]
  simp
  omega

theorem arg_below {w w' : World} {B b off : Nat} {xs : List ByteArray} (h : Arg w b off xs) (hb : Below B w w') (hB : b < B) : Arg w' b off xs := fun t ht => (hb.cell (by exact hB)).trans (h t ht)

theorem row_below {w w' : World} {B g : Nat} {xs : List ByteArray} (h : Row w g xs) (hb : Below B w w') (hB : g < B) : Row w' g xs := by
  unfold Row at h ⊢
  rw [hb.block g hB, h]

theorem str_one (s : ByteArray) : ∀ u ∈ [Value.string s], u.oneCell' = true := fun u hu => by
  simp at hu
  subst hu
  rfl
theorem strv_one (L : List ByteArray) : ∀ u ∈ strv L, u.oneCell' = true := fun u hu => by
  obtain ⟨s, _, rfl⟩ := List.mem_map.1 hu
  rfl
/-- A part of an owned row of strings, in a later world. -/
theorem cells_part {w w' : World} {base B g n cap o : Nat} {L M : List ByteArray} (h : w.ownsRow base 9 1 (.slice (some ⟨g, 0, none⟩) n cap) n (strv L)) (hb : Below B w w') (hg : g < B) (hLM : ∀ j, j < M.length → L[o + j]? = M[j]?) :
    ∀ ad, some (⟨g, o, none⟩ : Addr) = some ad → ∀ j u, (strv M)[j]? = some u → w'.cell? (ad.add j) = some u := by
  intro ad had j u hj
  have e : ad = ⟨g, o, none⟩ := (Option.some.inj had).symm
  subst e
  rw [show (⟨g, o, none⟩ : Addr).add j = ⟨g, o + j, none⟩ by unfold Addr.add; split <;> simp_all]
  have hj' : j < M.length := by rw [← strv_len]; exact (List.getElem?_eq_some_iff.1 hj).1
  rw [hb.cell (p := ⟨g, o + j, none⟩) hg]
  have hl := h.1
  rw [strv_len] at hl
  have hLj : o + j < L.length := by
    have := hLM j hj'
    rw [List.getElem?_eq_getElem hj'] at this
    exact (List.getElem?_eq_some_iff.1 this).1
  rw [h.cellAt (o + j) (by omega)]
  unfold strv at hj ⊢
  rw [List.getElem?_map] at hj ⊢
  rw [hLM j hj', hj]
end B
end Go.Proofs.Qxb6616265a
