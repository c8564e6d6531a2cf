import Derived.Test.Qxb6616283aFmtLabs
namespace Go.Proofs.Qxb6616283aFmt
open Go.RowKit Go.Maps

theorem exp_yes (s v : ByteArray) (w : World) : Calls Tryf.prog 26 #[.agg #[.string s, .string v, .int .u8 0], .int .i64 0] w fun e w' => e = .returned (.tuple #[.bool true, .string v]) ∧ Below w.heap.size w w' :=
  (exp_any s v 0 w).mono fun _ _ ⟨h1, h2⟩ => ⟨h1, h2⟩
theorem exp_not (s v : ByteArray) (kind : Int) (h : kind ≠ 0) (w : World) : Calls Tryf.prog 26 #[.agg #[.string s, .string v, .int .u8 kind], .int .i64 0] w fun e w' => e = .returned (.tuple #[.bool false, .string ⟨#[]⟩]) ∧ Below w.heap.size w w' :=
  (exp_any s v kind w).mono fun _ _ ⟨h1, h2⟩ => ⟨by rw [h1, decide_eq_false h, expS, if_neg h], h2⟩

theorem zeroStr (w : World) : (zeroValue 9).run Tryf.prog w = .ok (.string ⟨#[]⟩) w := by kernel_rfl

/-- r[k] with ok, in a map of labels: a string that reads as the map says. -/
theorem look_str {w : World} {b n : Nat} {L : DataW Unit} (h : w.ownsMap Tryf.prog 9 Rstr b n L) (k : ByteArray) (hk : k.size ≤ maxLen) :
    ∃ s : ByteArray, (Instr.lookup 34 (.map (some b)) (.string k) true).run Tryf.prog w = .ok (.tuple #[.string s, .bool (Maps.has L (.string k.data.toList))]) w ∧ L.atKey (.string k.data.toList) (.lit (.string [])) = .lit (.string s.data.toList) := by
  obtain ⟨v, ps, hrun, hv⟩ := h.look_ok keyed9 Tryf.underlying34 (zeroStr w) (zd := .lit (.string [])) (zp := []) rfl (WideMaps.keyOf_string_mk Tryf.underlying9 hk)
  obtain ⟨s, rfl, hs⟩ := Rstr_inv hv
  simp only [Prod.mk.injEq] at hs
  exact ⟨s, hrun, hs.1⟩

/-- .. at a key whose last write is a string. -/
theorem look_yes {w : World} {b n : Nat} {L : DataW Unit} {es : List Ent} (h : w.ownsMap Tryf.prog 9 Rstr b n L) (hL : Lab L es) (e : Ent) (hk : e.key.size ≤ maxLen) (hl : lastOf es (kl e) = some e) (h0 : e.kind = 0) :
    (Instr.lookup 34 (.map (some b)) (.string e.key) true).run Tryf.prog w = .ok (.tuple #[.string e.val, .bool true]) w := by
  obtain ⟨s, hrun, hs⟩ := look_str h e.key hk
  have h1 : Maps.has L (kl e) = true := by rw [hL.1, hl]; simp [strB, h0]
  have h2 := hL.2 (kl e) e hl h0 (.lit (.string []))
  have e1 : kl e = .string e.key.data.toList := rfl
  rw [e1] at h1 h2
  rw [h1] at hrun
  rw [h2] at hs
  simp only [DataW.lit.injEq, Lit.string.injEq] at hs
  rw [hrun, WideShapes.bytes_inj hs]
theorem look_not {w : World} {b n : Nat} {L : DataW Unit} {es : List Ent} (h : w.ownsMap Tryf.prog 9 Rstr b n L) (hL : Lab L es) (e : Ent) (hk : e.key.size ≤ maxLen) (hl : lastOf es (kl e) = some e) (h0 : e.kind ≠ 0) :
    ∃ s, (Instr.lookup 34 (.map (some b)) (.string e.key) true).run Tryf.prog w = .ok (.tuple #[.string s, .bool false]) w := by
  obtain ⟨s, hrun, _⟩ := look_str h e.key hk
  have h1 : Maps.has L (kl e) = false := by rw [hL.1, hl]; simp [strB, h0]
  have e1 : kl e = .string e.key.data.toList := rfl
  rw [e1] at h1
  rw [h1] at hrun
  exact ⟨s, hrun⟩

set_option maxRecDepth 100000 in
set_option maxHeartbeats 1000000 in
theorem are_any (ao : Option Addr) (len cap b n : Nat) (es : List Ent) (L : DataW Unit) (w : World) (hn : es.length = len) (hreach : len * 40 ≤ 140737488355328) (hok : EOk es) (hA : At w ao es) (hM : w.ownsMap Tryf.prog 9 Rstr b n L) (hL : Lab L es) :
    Calls Tryf.prog 14 #[.map (some b), .slice ao len cap, .int .i64 0] w fun e w' => e = .returned (.bool true) ∧ Below w.heap.size w w' := by
  have qm : ∀ (w : World) (r : Option Nat), (binOp .eql 34 (.map r) (.map none)).run Tryf.prog w = .ok (.bool r.isNone) w := fun w r => run_eql_map_nil w _ _ _ r Tryf.underlying34
  have HSz : Hid (Maps.size L = cntS es) := hL.size (hM.entries keyed9)
  have hcl : cntS es ≤ len := hn ▸ cntS_le es
  have HA : Hid (At w ao es) := hA
  have HN : Hid (es.length = len) := hn
  have HO : Hid (EOk es) := hok
  have HM : Hid (w.ownsMap Tryf.prog 9 Rstr b n L) := hM
  have HL : Hid (Lab L es) := hL
  clear hA hn hok hM hL
  go_enter Tryf.func14, Tryf.ntmps14
  go_wp2
  go_loopw [7, 8] (fun c i wr => ∃ (k cn : Nat), k ≤ len ∧ i = .int .i64 k ∧ c = .int .i64 cn ∧ cn ≤ k ∧ Hid (cn + cntS (es.drop k) = cntS es) ∧ Hid (Below w.heap.size w wr)) (fun _ i _ => len - (intOf i).toNat)
  case atStart => exact ⟨0, 0, Nat.zero_le _, rfl, rfl, Nat.le_refl _, (show 0 + cntS (es.drop 0) = cntS es by simp), Below.refl _ _⟩
  case round =>
    obtain ⟨k, cn, hk, rfl, rfl, hck, HC, HB⟩ := hrel
    by_cases hlt : k < len
    · have HS : Hid (cntS (es.drop k) = (if (lastAt es k && decide ((es.getD k e0).kind = 0)) = true then 1 else 0) + cntS (es.drop (k + 1))) := cntS_step es k (by rw [HN.out]; exact hlt)
      have hl1 : Calls Tryf.prog 25 #[.slice ao len cap, .int .i64 k] wr fun e w' => e = .returned (.bool (lastAt es k)) ∧ Below wr.heap.size wr w' := last_any ao len cap k es wr HN.out hreach (HA.out.below HB.out) hlt
      cases hla : lastAt es k with
      | false =>
        rw [hla] at hl1
        have HL1 : Hid (Calls Tryf.prog 25 #[.slice ao len cap, .int .i64 k] wr fun e w' => e = .returned (.bool false) ∧ Below wr.heap.size wr w') := hl1
        have HLA : Hid (lastAt es k = false) := hla
        clear hl1 hla
        go_wp2_with (go_at_call 25; refine HL1.out.mono ?_; rintro e w2 ⟨rfl, hB2⟩; have HB2 : Hid (Below w.heap.size w w2) := HB.out.trans (hB2.mono HB.out.size); clear hB2)
        go_roundw
        case rel =>
          refine ⟨k + 1, cn, by omega, by go_num, rfl, by omega, ?_, HB2⟩
          have h1 := HC.out
          rw [HS.out, HLA.out] at h1
          show cn + cntS (es.drop (k + 1)) = cntS es
          simpa using h1
        case measure => simp [intOf]; omega
      | true =>
        rw [hla] at hl1
        have HL1 : Hid (Calls Tryf.prog 25 #[.slice ao len cap, .int .i64 k] wr fun e w' => e = .returned (.bool true) ∧ Below wr.heap.size wr w') := hl1
        have hlast := lastAt_of es k (by rw [HN.out]; exact hlt) hla
        have HLA : Hid (lastAt es k = true) := hla
        clear hl1 hla
        obtain ⟨b1, off, rfl, hb, hE⟩ := HA.out (by rw [HN.out]; omega)
        have HC3 : Hid (∀ w', Below w.heap.size w w' → w'.cell? ⟨b1, off + k * 3, none⟩ = some (.string (es.getD k e0).key) ∧ w'.cell? ⟨b1, off + k * 3 + 1, none⟩ = some (.string (es.getD k e0).val) ∧ w'.cell? ⟨b1, off + k * 3 + 2, none⟩ = some (.int .u8 (es.getD k e0).kind)) := fun w' h => (hE.below h hb) k (by rw [HN.out]; exact hlt)
        have HK : Hid ((es.getD k e0).key.size ≤ maxLen) := (HO.out _ (getD_mem es k (by rw [HN.out]; exact hlt))).1
        clear hE
        have HLast : Hid (lastOf es (kl (es.getD k e0)) = some (es.getD k e0)) := hlast
        clear hlast
        obtain ⟨en, hen⟩ : ∃ x, x = es.getD k e0 := ⟨_, rfl⟩
        rw [← hen] at HC3 HK HLast HS
        clear hen
        by_cases h0 : en.kind = 0
        · have H0 : Hid (en.kind = 0) := h0
          obtain ⟨key, val, kind⟩ := en
          have h0' : kind = 0 := h0
          subst h0'
          clear h0
          go_wp2_with (first
            | (go_at_call 25; refine HL1.out.mono ?_; rintro e w2 ⟨rfl, hB2⟩; have HB2 : Hid (Below w.heap.size w w2) := HB.out.trans (hB2.mono HB.out.size); clear hB2; obtain ⟨c1, c2, c3⟩ := HC3.out w2 HB2.out)
            | (go_at_call 26; refine (exp_yes _ _ _).mono ?_; rintro e w3 ⟨rfl, hB3⟩; have HB3 : Hid (Below w.heap.size w w3) := HB2.out.trans (hB3.mono HB2.out.size); clear hB3; obtain ⟨d1, d2, d3⟩ := HC3.out w3 HB3.out; have hlk := look_yes (HM.out.kept (grown_of_below HB3.out) (by simp)) HL.out ⟨key, val, 0⟩ HK.out HLast.out rfl))
          go_roundw
          case rel =>
            refine ⟨k + 1, cn + 1, by omega, by go_num, by go_num, by omega, ?_, HB3⟩
            have h1 := HC.out
            rw [HS.out, HLA.out] at h1
            show cn + 1 + cntS (es.drop (k + 1)) = cntS es
            simp at h1
            omega
          case measure => simp [intOf]; omega
        · have H0 : Hid (en.kind ≠ 0) := h0
          clear h0
          go_wp2_with (first
            | (go_at_call 25; refine HL1.out.mono ?_; rintro e w2 ⟨rfl, hB2⟩; have HB2 : Hid (Below w.heap.size w w2) := HB.out.trans (hB2.mono HB.out.size); clear hB2; obtain ⟨c1, c2, c3⟩ := HC3.out w2 HB2.out)
            | (go_at_call 26; refine (exp_not _ _ _ H0.out _).mono ?_; rintro e w3 ⟨rfl, hB3⟩; have HB3 : Hid (Below w.heap.size w w3) := HB2.out.trans (hB3.mono HB2.out.size); clear hB3; obtain ⟨d1, d2, d3⟩ := HC3.out w3 HB3.out; obtain ⟨sx, hlk⟩ := look_not (HM.out.kept (grown_of_below HB3.out) (by simp)) HL.out en HK.out HLast.out H0.out))
          go_roundw
          case rel =>
            refine ⟨k + 1, cn, by omega, by go_num, rfl, by omega, ?_, HB3⟩
            have h1 := HC.out
            rw [HS.out, HLA.out, decide_eq_false H0.out] at h1
            show cn + cntS (es.drop (k + 1)) = cntS es
            simpa using h1
          case measure => simp [intOf]; omega
    · have HM4 : Hid (wr.ownsMap Tryf.prog 9 Rstr b n L) := HM.out.kept (grown_of_below HB.out) (by simp)
      go_wp2_with (at_len; refine wpList_len_own _ rfl _ 34 rfl 9 9 Tryf.underlying34 _ b n _ rfl HM4.out ?_)
      go_ret
      refine ⟨?_, HB.out⟩
      have h1 := HC.out
      rw [List.drop_eq_nil_of_le (by rw [HN.out]; omega)] at h1
      have h2 : Maps.size L = cn := by rw [HSz.out, ← h1]; rfl
      have h3 : (((Maps.size L : Nat) : Int) == (cn : Int)) = true := by rw [h2]; simp
      rw [h3]
      rfl
end Go.Proofs.Qxb6616283aFmt
