import Derived.Test.Qxb6616283aAre
import Derived.Test.Qxb6616283aZz
namespace Go.Proofs.Qxb6616283a
open Go.RowKit Go.Maps

/-- Another key reads alike in both maps. -/
theorem look_both {w : World} {b1 n1 b2 n2 : Nat} {L L2 : DataW Unit} {es : List Ent} {e : Ent} (h1 : w.ownsMap Try.prog 9 Rstr b1 n1 L) (h2 : w.ownsMap Try.prog 9 Rstr b2 n2 L2) (hL : Lab L es) (hL2 : Lab L2 (es ++ [e])) (k : ByteArray) (hk : k.size ≤ maxLen) (hne : (kl e).sameKey (.string k.data.toList) = false) :
    ∃ (s : ByteArray) (ok : Bool), (Instr.lookup 31 (.map (some b1)) (.string k) true).run Try.prog w = .ok (.tuple #[.string s, .bool ok]) w ∧ (Instr.lookup 31 (.map (some b2)) (.string k) true).run Try.prog w = .ok (.tuple #[.string s, .bool ok]) w := by
  obtain ⟨s1, r1, a1⟩ := look_str h1 k hk
  obtain ⟨s2, r2, a2⟩ := look_str h2 k hk
  obtain ⟨hh, hy, hn⟩ := lab_more_other hL hL2 hne
  rw [hh] at r2
  have hs : s1 = s2 := by
    cases hc : Maps.has L (.string k.data.toList) with
    | true =>
      have := hy (.lit (.string [])) hc
      rw [a1, a2] at this
      simp only [DataW.lit.injEq, Lit.string.injEq] at this
      exact (WideShapes.bytes_inj this).symm
    | false =>
      obtain ⟨e2, e1⟩ := hn (.lit (.string [])) hc
      rw [a2] at e2
      rw [a1] at e1
      simp only [DataW.lit.injEq, Lit.string.injEq] at e1 e2
      exact WideShapes.bytes_inj (e1.trans e2.symm)
  exact ⟨s1, _, r1, by rw [hs]; exact r2⟩

theorem hadB {w : World} {b n : Nat} {L : DataW Unit} (h : w.ownsMap Try.prog 9 Rstr b n L) (k : ByteArray) (hk : k.size ≤ maxLen) (c : Bool) (hc : Maps.has L (.string k.data.toList) = c) : ∃ s : ByteArray, (Instr.lookup 31 (.map (some b)) (.string k) true).run Try.prog w = .ok (.tuple #[.string s, .bool c]) w := by
  obtain ⟨s, r, _⟩ := look_str h k hk
  exact ⟨s, hc ▸ r⟩

set_option maxRecDepth 100000 in
set_option maxHeartbeats 1000000 in
theorem law3_big (file key val : ByteArray) (line : Int) (ao : Option Addr) (len cap : Nat) (es : List Ent) (w : World) (hn : es.length = len) (hreach : len * 40 ≤ 140737488355328) (hA : At w ao es) (h : (1048576 : Int) < (file.size : Int) ∨ (1048576 : Int) < (key.size : Int) ∨ (1048576 : Int) < (val.size : Int)) :
    Calls Try.prog 3 #[.string file, .int .i64 line, .slice ao len cap, .string key, .string val] w fun e w' => e = .returned (.bool true) ∧ Below w.heap.size w w' := by
  have HA : Hid (At w ao es) := hA
  have HN : Hid (es.length = len) := hn
  clear hA hn
  by_cases hf : (1048576 : Int) < (file.size : Int)
  · clear h
    go_enter Try.func3, Try.ntmps3
    go_wp2_with (go_at_call 5; refine (zz5_any file key val _ ao len cap es _ HN.out hreach HA.out).mono ?_; rintro e w1 ⟨⟨r, rfl⟩, hB1⟩; have HB1 : Hid (Below w.heap.size w w1) := hB1; clear hB1)
    all_goals (go_ret; exact ⟨rfl, HB1.out⟩)
  by_cases hk : (1048576 : Int) < (key.size : Int)
  · clear h
    go_enter Try.func3, Try.ntmps3
    go_wp2_with (go_at_call 5; refine (zz5_any file key val _ ao len cap es _ HN.out hreach HA.out).mono ?_; rintro e w1 ⟨⟨r, rfl⟩, hB1⟩; have HB1 : Hid (Below w.heap.size w w1) := hB1; clear hB1)
    all_goals (go_ret; exact ⟨rfl, HB1.out⟩)
  have hv : (1048576 : Int) < (val.size : Int) := by omega
  clear h
  go_enter Try.func3, Try.ntmps3
  go_wp2_with (go_at_call 5; refine (zz5_any file key val _ ao len cap es _ HN.out hreach HA.out).mono ?_; rintro e w1 ⟨⟨r, rfl⟩, hB1⟩; have HB1 : Hid (Below w.heap.size w w1) := hB1; clear hB1)
  all_goals (go_ret; exact ⟨rfl, HB1.out⟩)

set_option maxRecDepth 100000 in
set_option maxHeartbeats 2000000 in
theorem law3_in (file key val : ByteArray) (line : Int) (ao : Option Addr) (len cap : Nat) (es : List Ent) (w : World) (hn : es.length = len) (hreach : len * 40 ≤ 140737488355328) (hok : EOk es) (hA : At w ao es) (hks : key.size ≤ maxLen) (hvs : val.size ≤ maxLen) (hf : ¬ (1048576 : Int) < (file.size : Int)) (hk : ¬ (1048576 : Int) < (key.size : Int)) (hv : ¬ (1048576 : Int) < (val.size : Int)) (hreach2 : (len + 1) * 40 ≤ 140737488355328) :
    Calls Try.prog 3 #[.string file, .int .i64 line, .slice ao len cap, .string key, .string val] w fun e w' => e = .returned (.bool true) ∧ Below w.heap.size w w' := by
  obtain ⟨ne, hne⟩ : ∃ x : Ent, x = ⟨key, val, 0⟩ := ⟨_, rfl⟩
  obtain ⟨es2, hes2⟩ : ∃ l, l = es ++ [ne] := ⟨_, rfl⟩
  have hok2 : EOk es2 := by
    rw [hes2]
    intro e he
    rcases List.mem_append.1 he with h | h
    · exact hok e h
    · simp at h; subst h; rw [hne]; exact ⟨hks, hvs, (by decide : (0 : Int) ≤ 0), (by decide : (0 : Int) ≤ 255)⟩
  have HO2 : Hid (EOk es2) := hok2
  have HN2 : Hid (es2.length = len + 1) := by show es2.length = len + 1; rw [hes2]; simp [hn]
  have HE2 : Hid (es2 = es ++ [ne]) := hes2
  have HNE : Hid (ne = ⟨key, val, 0⟩) := hne
  have HA : Hid (At w ao es) := hA
  have HN : Hid (es.length = len) := hn
  have HO : Hid (EOk es) := hok
  have HK : Hid (key.size ≤ maxLen) := hks
  clear hA hn hok hks hvs hok2 hes2 hne
  go_enter Try.func3, Try.ntmps3
  go_wp2_with fail
  refine (zz5_any file key val _ ao len cap es _ HN.out hreach HA.out).mono ?_
  rintro e w1 ⟨⟨r, rfl⟩, hB1⟩
  have HB1 : Hid (Below w.heap.size w w1) := hB1
  clear hB1
  cases r with
  | false =>
    go_wp2
    go_ret
    exact ⟨rfl, HB1.out⟩
  | true =>
    go_wp2_with fail
    refine (big_any ao len cap es _ _ HN.out hreach (HA.out.below HB1.out)).mono ?_
    rintro e w2 ⟨⟨r, rfl⟩, hB2⟩
    have HB2 : Hid (Below w.heap.size w w2) := HB1.out.trans (hB2.mono HB1.out.size)
    clear hB2
    cases r with
    | true =>
      go_wp2
      go_ret
      exact ⟨rfl, HB2.out⟩
    | false =>
      go_wp2_with fail
      refine (clone_any ao len cap es _ HN.out hreach (HA.out.below HB2.out)).mono ?_
      rintro e w3 ⟨ao3, cap3, rfl, hA3, hB3⟩
      have HA3 : Hid (At w3 ao3 es) := hA3
      have HB3 : Hid (Below w.heap.size w w3) := HB2.out.trans (hB3.mono HB2.out.size)
      clear hB3 hA3
      go_wp2_with fail
      refine (with_any ao3 len cap3 es key val _ HN.out hreach HA3.out).mono ?_
      rintro e w4 ⟨ao4, cap4, rfl, hA4, hB4⟩
      have HM4 : Hid (At w4 ao4 es2) := by rw [HE2.out, HNE.out]; exact hA4
      have HA4 : Hid (At w4 ao3 es) := HA3.out.below hB4
      have HB4 : Hid (Below w.heap.size w w4) := HB3.out.trans (hB4.mono HB3.out.size)
      clear hA4 hB4
      go_wp2_with fail
      refine (body0 ao3 len cap3 es _ HN.out hreach HO.out HA4.out).mono ?_
      rintro e w5 ⟨rv, lb, rfl, hF5, hL5, hB5⟩
      have HF5 : Hid (FieldIs w5 (.map rv) (.iface 27 (.map (some lb)))) := hF5
      have HL5 : Hid (w5.ownsMap Try.prog 9 Rany lb len (LM es)) := hL5
      have HA5 : Hid (At w5 ao3 es) := HA4.out.below hB5
      have HM5 : Hid (At w5 ao4 es2) := HM4.out.below hB5
      have HB5 : Hid (Below w.heap.size w w5) := HB4.out.trans (hB5.mono HB4.out.size)
      clear hF5 hL5 hB5
      -- the first document's block
      have b6 : Below w5.heap.size w5 (w5.alloc (.cells #[.string file, .int .i64 line, .map rv] 30)) := (Below.refl _ _).alloc (Nat.le_refl _) _
      have HZ6 : Hid ((w5.alloc (.cells #[.string file, .int .i64 line, .map rv] 30)).heap.size = w5.heap.size + 1) := by show (w5.alloc (.cells #[.string file, .int .i64 line, .map rv] 30)).heap.size = w5.heap.size + 1; simp
      have HA6 : Hid (At (w5.alloc (.cells #[.string file, .int .i64 line, .map rv] 30)) ao3 es) := HA5.out.below b6
      have HM6 : Hid (At (w5.alloc (.cells #[.string file, .int .i64 line, .map rv] 30)) ao4 es2) := HM5.out.below b6
      have HB6 : Hid (Below w.heap.size w (w5.alloc (.cells #[.string file, .int .i64 line, .map rv] 30))) := HB5.out.trans (b6.mono HB5.out.size)
      have HF6 : Hid (FieldIs (w5.alloc (.cells #[.string file, .int .i64 line, .map rv] 30)) (.map rv) (.iface 27 (.map (some lb)))) := HF5.out.below b6
      have HL6 : Hid ((w5.alloc (.cells #[.string file, .int .i64 line, .map rv] 30)).ownsMap Try.prog 9 Rany lb len (LM es)) := HL5.out.alloc _
      have HH6 : Hid ((w5.alloc (.cells #[.string file, .int .i64 line, .map rv] 30)).heap[w5.heap.size]? = some (.cells #[.string file, .int .i64 line, .map rv] 30 (0, 0))) := heap_alloc_new w5 _
      clear b6
      go_wp2_with fail
      refine (body0 ao4 (len + 1) cap4 es2 _ HN2.out hreach2 HO2.out HM6.out).mono ?_
      rintro e w7 ⟨rv2, lb2, rfl, hF7, hL7, hB7⟩
      have HF7 : Hid (FieldIs w7 (.map rv) (.iface 27 (.map (some lb)))) := HF6.out.below hB7
      have HL7 : Hid (w7.ownsMap Try.prog 9 Rany lb len (LM es)) := HL6.out.kept (grown_of_below hB7) (by simp)
      have HF7' : Hid (FieldIs w7 (.map rv2) (.iface 27 (.map (some lb2)))) := hF7
      have HL7' : Hid (w7.ownsMap Try.prog 9 Rany lb2 (len + 1) (LM es2)) := hL7
      have HA7 : Hid (At w7 ao3 es) := HA6.out.below hB7
      have HM7 : Hid (At w7 ao4 es2) := HM6.out.below hB7
      have HB7 : Hid (Below w.heap.size w w7) := HB6.out.trans (hB7.mono HB6.out.size)
      have HH7 : Hid (w7.heap[w5.heap.size]? = some (.cells #[.string file, .int .i64 line, .map rv] 30 (0, 0))) := (hB7.block _ (by rw [HZ6.out]; omega)).trans HH6.out
      have z7 : w5.heap.size + 1 ≤ w7.heap.size := HZ6.out ▸ hB7.size
      clear hF7 hL7 hB7
      -- the second document's block
      have b8 : Below w7.heap.size w7 (w7.alloc (.cells #[.string file, .int .i64 line, .map rv2] 30)) := (Below.refl _ _).alloc (Nat.le_refl _) _
      have HZ8 : Hid ((w7.alloc (.cells #[.string file, .int .i64 line, .map rv2] 30)).heap.size = w7.heap.size + 1) := by show (w7.alloc (.cells #[.string file, .int .i64 line, .map rv2] 30)).heap.size = w7.heap.size + 1; simp
      have HA8 : Hid (At (w7.alloc (.cells #[.string file, .int .i64 line, .map rv2] 30)) ao3 es) := HA7.out.below b8
      have HM8 : Hid (At (w7.alloc (.cells #[.string file, .int .i64 line, .map rv2] 30)) ao4 es2) := HM7.out.below b8
      have HB8 : Hid (Below w.heap.size w (w7.alloc (.cells #[.string file, .int .i64 line, .map rv2] 30))) := HB7.out.trans (b8.mono HB7.out.size)
      have HF8 : Hid (FieldIs (w7.alloc (.cells #[.string file, .int .i64 line, .map rv2] 30)) (.map rv) (.iface 27 (.map (some lb)))) := HF7.out.below b8
      have HL8 : Hid ((w7.alloc (.cells #[.string file, .int .i64 line, .map rv2] 30)).ownsMap Try.prog 9 Rany lb len (LM es)) := HL7.out.alloc _
      have HF8' : Hid (FieldIs (w7.alloc (.cells #[.string file, .int .i64 line, .map rv2] 30)) (.map rv2) (.iface 27 (.map (some lb2)))) := HF7'.out.below b8
      have HL8' : Hid ((w7.alloc (.cells #[.string file, .int .i64 line, .map rv2] 30)).ownsMap Try.prog 9 Rany lb2 (len + 1) (LM es2)) := HL7'.out.alloc _
      have hH8 : (w7.alloc (.cells #[.string file, .int .i64 line, .map rv2] 30)).heap[w5.heap.size]? = some (.cells #[.string file, .int .i64 line, .map rv] 30 (0, 0)) := (b8.block _ (by omega)).trans HH7.out
      have HH8' : Hid ((w7.alloc (.cells #[.string file, .int .i64 line, .map rv2] 30)).heap[w7.heap.size]? = some (.cells #[.string file, .int .i64 line, .map rv2] 30 (0, 0))) := heap_alloc_new w7 _
      have c0 : (w7.alloc (.cells #[.string file, .int .i64 line, .map rv2] 30)).cell? ⟨w5.heap.size, 0, none⟩ = some (.string file) := by rw [cell_of_row _ _ _ _ _ _ hH8]; rfl
      have c1 : (w7.alloc (.cells #[.string file, .int .i64 line, .map rv2] 30)).cell? ⟨w5.heap.size, 1, none⟩ = some (.int .i64 line) := by rw [cell_of_row _ _ _ _ _ _ hH8]; rfl
      have c2 : (w7.alloc (.cells #[.string file, .int .i64 line, .map rv2] 30)).cell? ⟨w5.heap.size, 2, none⟩ = some (.map rv) := by rw [cell_of_row _ _ _ _ _ _ hH8]; rfl
      clear b8 hH8
      go_wp2_with fail
      refine (labels_map file line (.map rv) lb len es _ HF8.out HL8.out (by omega)).mono ?_
      rintro e w9 ⟨b1, L1, rfl, hb1, hR9, hLab1, hB9⟩
      have HR9 : Hid (w9.ownsMap Try.prog 9 Rstr b1 len L1) := hR9
      have HLab1 : Hid (Lab L1 es) := hLab1
      have HA9 : Hid (At w9 ao3 es) := HA8.out.below hB9
      have HM9 : Hid (At w9 ao4 es2) := HM8.out.below hB9
      have HB9 : Hid (Below w.heap.size w w9) := HB8.out.trans (hB9.mono HB8.out.size)
      have HF9' : Hid (FieldIs w9 (.map rv2) (.iface 27 (.map (some lb2)))) := HF8'.out.below hB9
      have HL9' : Hid (w9.ownsMap Try.prog 9 Rany lb2 (len + 1) (LM es2)) := HL8'.out.kept (grown_of_below hB9) (by simp)
      have hH9 : w9.heap[w7.heap.size]? = some (.cells #[.string file, .int .i64 line, .map rv2] 30 (0, 0)) := (hB9.block _ (by rw [HZ8.out]; omega)).trans HH8'.out
      have d0 : w9.cell? ⟨w7.heap.size, 0, none⟩ = some (.string file) := by rw [cell_of_row _ _ _ _ _ _ hH9]; rfl
      have d1 : w9.cell? ⟨w7.heap.size, 1, none⟩ = some (.int .i64 line) := by rw [cell_of_row _ _ _ _ _ _ hH9]; rfl
      have d2 : w9.cell? ⟨w7.heap.size, 2, none⟩ = some (.map rv2) := by rw [cell_of_row _ _ _ _ _ _ hH9]; rfl
      clear hR9 hLab1 hB9 hH9 hb1 c0 c1 c2
      go_wp2_with fail
      refine (labels_map file line (.map rv2) lb2 (len + 1) es2 _ HF9'.out HL9'.out (by omega)).mono ?_
      rintro e w10 ⟨b2, L2, rfl, hb2, hR10, hLab2, hB10⟩
      have HR10 : Hid (w10.ownsMap Try.prog 9 Rstr b1 len L1) := HR9.out.kept (grown_of_below hB10) (by simp)
      have HR10' : Hid (w10.ownsMap Try.prog 9 Rstr b2 (len + 1) L2) := hR10
      have HLab2 : Hid (Lab L2 es2) := hLab2
      have HA10 : Hid (At w10 ao3 es) := HA9.out.below hB10
      have HM10 : Hid (At w10 ao4 es2) := HM9.out.below hB10
      have HB10 : Hid (Below w.heap.size w w10) := HB9.out.trans (hB10.mono HB9.out.size)
      clear hR10 hLab2 hB10 hb2 d0 d1 d2
      go_wp2_with fail
      refine (are_any ao3 len cap3 b1 len es L1 _ HN.out hreach HO.out HA10.out HR10.out HLab1.out).mono ?_
      rintro e w11 ⟨rfl, hB11⟩
      have HR11 : Hid (w11.ownsMap Try.prog 9 Rstr b1 len L1) := HR10.out.kept (grown_of_below hB11) (by simp)
      have HR11' : Hid (w11.ownsMap Try.prog 9 Rstr b2 (len + 1) L2) := HR10'.out.kept (grown_of_below hB11) (by simp)
      have HA11 : Hid (At w11 ao3 es) := HA10.out.below hB11
      have HM11 : Hid (At w11 ao4 es2) := HM10.out.below hB11
      have HB11 : Hid (Below w.heap.size w w11) := HB10.out.trans (hB11.mono HB10.out.size)
      clear hB11
      go_wp2_with fail
      refine (are_any ao4 (len + 1) cap4 b2 (len + 1) es2 L2 _ HN2.out hreach2 HO2.out HM11.out HR11'.out HLab2.out).mono ?_
      rintro e w12 ⟨rfl, hB12⟩
      have HR12 : Hid (w12.ownsMap Try.prog 9 Rstr b1 len L1) := HR11.out.kept (grown_of_below hB12) (by simp)
      have HR12' : Hid (w12.ownsMap Try.prog 9 Rstr b2 (len + 1) L2) := HR11'.out.kept (grown_of_below hB12) (by simp)
      have HA12 : Hid (At w12 ao3 es) := HA11.out.below hB12
      have HB12 : Hid (Below w.heap.size w w12) := HB11.out.trans (hB12.mono HB11.out.size)
      clear hB12
      have hsL : Maps.size L1 ≤ len := HR12.out.size_le
      have hLab2' : Lab L2 (es ++ [ne]) := HE2.out ▸ HLab2.out
      have hne0 : ne.kind = 0 := by rw [HNE.out]
      have hkl : kl ne = .string key.data.toList := by rw [HNE.out]; rfl
      have hlk1 := look_yes HR12'.out hLab2' ⟨key, val, 0⟩ HK.out (by rw [← HNE.out, lastOf_snoc, same_self]; rfl) rfl
      have hsz2 := lab_more_size HLab1.out hLab2' hne0 (HR12.out.entries keyed9) (HR12'.out.entries keyed9)
      have hln1 : ∀ ty, (Builtin.len_ #[31] ty #[.map (some b1)]).run Try.prog w12 = .ok (.int .i64 (Maps.size L1)) w12 := fun ty => HR12.out.len Try.underlying31 ty
      have hln2 : ∀ ty, (Builtin.len_ #[31] ty #[.map (some b2)]).run Try.prog w12 = .ok (.int .i64 (Maps.size L2)) w12 := fun ty => HR12'.out.len Try.underlying31 ty
      rw [hkl] at hsz2
      have HLK : Hid (∀ k : ByteArray, k.size ≤ maxLen → (kl ne).sameKey (.string k.data.toList) = false → ∃ (s : ByteArray) (ok : Bool), (Instr.lookup 31 (.map (some b1)) (.string k) true).run Try.prog w12 = .ok (.tuple #[.string s, .bool ok]) w12 ∧ (Instr.lookup 31 (.map (some b2)) (.string k) true).run Try.prog w12 = .ok (.tuple #[.string s, .bool ok]) w12) := fun k hk hs => look_both HR12.out HR12'.out HLab1.out hLab2' k hk hs
      have HKL : Hid (kl ne = .string key.data.toList) := hkl
      clear hLab2' hne0 hkl
      cases hhad : Maps.has L1 (.string key.data.toList) with
      | true =>
        obtain ⟨sx, hlk2⟩ := hadB HR12.out key HK.out true hhad
        rw [hhad, if_pos rfl] at hsz2
        rw [hsz2] at hln2
        clear hsz2 hhad
        go_wp2
        go_loop [21, 22, 23, 24, 25, 26] (fun i _ _ _ _ _ => ∃ k : Nat, k ≤ len ∧ i = .int .i64 k) (fun i _ _ _ _ _ => len - (intOf i).toNat)
        case atStart => exact ⟨0, Nat.zero_le _, rfl⟩
        case round =>
          obtain ⟨k, hkl, rfl⟩ := hrel
          by_cases hlt : k < len
          · obtain ⟨b, off, rfl, hb, hE⟩ := HA12.out (by rw [HN.out]; omega)
            obtain ⟨c1, _, _⟩ := hE k (by rw [HN.out]; exact hlt)
            clear hE
            have HKk : Hid ((es.getD k e0).key.size ≤ maxLen) := (HO.out _ (getD_mem es k (by rw [HN.out]; exact hlt))).1
            obtain ⟨sk, hsk⟩ : ∃ s, s = (es.getD k e0).key := ⟨_, rfl⟩
            rw [← hsk] at c1 HKk
            clear hsk
            by_cases hq : (sk.toList == key.toList) = true
            · go_wp2
              go_round
              case rel => exact ⟨k + 1, by omega, by go_num⟩
              case measure => simp [intOf]; omega
            · have hq' : (sk.toList == key.toList) = false := by simpa using hq
              obtain ⟨sv, okv, l1, l2⟩ := HLK.out sk HKk.out (by
                rw [HKL.out]
                show (key.data.toList == sk.data.toList) = false
                rw [← toList_data, ← toList_data]
                rw [beq_eq_false_iff_ne] at hq' ⊢
                exact fun e => hq' e.symm)
              clear hq
              go_wp2
              go_round
              case rel => exact ⟨k + 1, by omega, by go_num⟩
              case measure => simp [intOf]; omega
          · go_wp2
            go_ret
            exact ⟨rfl, HB12.out⟩
      | false =>
        obtain ⟨sx, hlk2⟩ := hadB HR12.out key HK.out false hhad
        rw [hhad, if_neg (by simp)] at hsz2
        have hln2' : ∀ ty, (Builtin.len_ #[31] ty #[.map (some b2)]).run Try.prog w12 = .ok (.int .i64 ((Maps.size L1 : Int) + 1)) w12 := fun ty => by rw [hln2 ty, hsz2]; rfl
        clear hsz2 hhad hln2
        go_wp2
        go_loop [21, 22, 23, 24, 25, 26] (fun i _ _ _ _ _ => ∃ k : Nat, k ≤ len ∧ i = .int .i64 k) (fun i _ _ _ _ _ => len - (intOf i).toNat)
        case atStart => exact ⟨0, Nat.zero_le _, rfl⟩
        case round =>
          obtain ⟨k, hkl, rfl⟩ := hrel
          by_cases hlt : k < len
          · obtain ⟨b, off, rfl, hb, hE⟩ := HA12.out (by rw [HN.out]; omega)
            obtain ⟨c1, _, _⟩ := hE k (by rw [HN.out]; exact hlt)
            clear hE
            have HKk : Hid ((es.getD k e0).key.size ≤ maxLen) := (HO.out _ (getD_mem es k (by rw [HN.out]; exact hlt))).1
            obtain ⟨sk, hsk⟩ : ∃ s, s = (es.getD k e0).key := ⟨_, rfl⟩
            rw [← hsk] at c1 HKk
            clear hsk
            by_cases hq : (sk.toList == key.toList) = true
            · go_wp2
              go_round
              case rel => exact ⟨k + 1, by omega, by go_num⟩
              case measure => simp [intOf]; omega
            · have hq' : (sk.toList == key.toList) = false := by simpa using hq
              obtain ⟨sv, okv, l1, l2⟩ := HLK.out sk HKk.out (by
                rw [HKL.out]
                show (key.data.toList == sk.data.toList) = false
                rw [← toList_data, ← toList_data]
                rw [beq_eq_false_iff_ne] at hq' ⊢
                exact fun e => hq' e.symm)
              clear hq
              go_wp2
              go_round
              case rel => exact ⟨k + 1, by omega, by go_num⟩
              case measure => simp [intOf]; omega
          · go_wp2
            go_ret
            exact ⟨rfl, HB12.out⟩

theorem law3_any (file key val : ByteArray) (line : Int) (ao : Option Addr) (len cap : Nat) (es : List Ent) (w : World) (hn : es.length = len) (hreach : len * 40 ≤ 140737488351232) (hok : EOk es) (hA : At w ao es) (hks : key.size ≤ maxLen) (hvs : val.size ≤ maxLen) :
    Calls Try.prog 3 #[.string file, .int .i64 line, .slice ao len cap, .string key, .string val] w fun e w' => e = .returned (.bool true) ∧ Below w.heap.size w w' := by
  by_cases h : (1048576 : Int) < (file.size : Int) ∨ (1048576 : Int) < (key.size : Int) ∨ (1048576 : Int) < (val.size : Int)
  · exact law3_big file key val line ao len cap es w hn (by omega) hA h
  · exact law3_in file key val line ao len cap es w hn (by omega) hok hA hks hvs (by omega) (by omega) (by omega) (by omega)
end Go.Proofs.Qxb6616283a
