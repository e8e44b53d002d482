/-
  impl.Symbol1: what it answers, for every text.
-/
import Derived.Test.YtpgmnggicmbacaaDoorSySd
import Derived.Test.YtpgmnggicmbacaaDoorSyKind
namespace Go.Proofs.YtpgmnggicmbacaaDoor
open Go.Shelf Go.RowKit
set_option linter.unusedVariables false
set_option linter.unusedSimpArgs false

theorem tok_pos {s d : ByteArray} {k : Int} (h : SyR s (some (some (k, d)))) : 0 ≤ k := by
  obtain ⟨h1, h2, h3⟩ := h
  by_cases hc : Comm s
  · rcases h1 hc with h | h <;> cases h
  · cases hb : bars (by_ s) s.size 0
    · obtain ⟨t, -, e⟩ := h3 hc hb
      injection e with e
      injection e with e
      injection e with e1 e2
      rw [e1]
      split <;> omega
    · obtain ⟨e, -⟩ := h2 hc hb
      omega
theorem symP_tok {s d : ByteArray} {k : Int} (h0 : Sym0 s) (h : SyR s (some (some (k, d)))) : SymP 13 5 12 s k d true := by
  refine ⟨fun h => absurd h0 h, fun _ hc => ?_, fun _ hc hb h45 ht => ?_, fun _ hc hb => ?_⟩
  · rcases h.1 hc with h | h <;> cases h
  · obtain ⟨e, g⟩ := h.2.1 hc hb
    exact ⟨fun _ => ⟨e, g h45 ht⟩, fun h => by cases h⟩
  · obtain ⟨t, hst, e⟩ := h.2.2 hc hb
    injection e with e
    injection e with e
    injection e with e1 e2
    exact ⟨rfl, t, hst, e2, by rw [e1, e2]⟩
theorem symP_no {s d : ByteArray} {k : Int} {r : Option (Option (Int × ByteArray))} (h0 : Sym0 s) (h : SyR s r) (hr : r = none ∨ r = some none) : SymP 13 5 12 s k d false := by
  refine ⟨fun h => absurd h0 h, fun _ hc => rfl, fun _ hc hb h45 ht => ?_, fun _ hc hb => ?_⟩
  · have g := h.2.1 hc hb
    rcases hr with rfl | rfl
    · exact ⟨fun h => (by cases h), fun _ v => g h45 ht v⟩
    · exact g.elim
  · obtain ⟨t, -, e⟩ := h.2.2 hc hb
    rcases hr with rfl | rfl <;> cases e
theorem symP_out {s d : ByteArray} {k : Int} (h0 : ¬ Sym0 s) : SymP 13 5 12 s k d false := ⟨fun _ => rfl, fun h => absurd h h0, fun h => absurd h h0, fun h => absurd h h0⟩
/-- What Symbol1 answers. -/
def S1Post (s : ByteArray) (w : World) (e : Ending) (w' : World) : Prop :=
  (∃ (k : Int) (d : ByteArray) (is : Bool), e = .returned (.tuple #[.agg #[.int .i64 k, .string d], .bool is]) ∧ SymP 13 5 12 s k d is) ∧ Below w.heap.size w w'
set_option maxRecDepth 100000 in
set_option maxHeartbeats 3200000 in
theorem symbol1_any (s : ByteArray) (hs : s.size ≤ 1000000) (w : World) (hT : Lib.Utf8Tabs 0 1 w) : Calls Tryd.prog 13 #[.string s] w (S1Post s w) := by
  have hq := empty_beq s
  by_cases h : s.size = 0
  · rw [decide_eq_true h] at hq
    have HN := Lib.hid (show ¬ Sym0 s from fun h2 => by have := h2.1; omega)
    clear h
    go_enter Tryd.func13, Tryd.ntmps13
    go_wp2_with fail
    refine bodyPost_ret (v := .tuple #[.agg #[.int .i64 0, .string ⟨#[]⟩], .bool false]) ?_ rfl ⟨⟨0, ⟨#[]⟩, false, rfl, symP_out HN.out⟩, below_alloc1 _ _⟩
    simp [results, Tryd.results13, go_sem]
  · rw [decide_eq_false h] at hq
    have h0 : 0 < s.size := by omega
    have hd := Lib.hid (by_eq h0)
    have HT := Lib.hid hT
    have HR := Lib.hid (Blk.new w 32 #[.int .i64 0, .string ⟨#[]⟩])
    have HA := Lib.hid (below_alloc1 w (.cells #[.int .i64 0, .string ⟨#[]⟩] 32))
    clear h hT
    go_enter Tryd.func13, Tryd.ntmps13
    go_wp2_with fail
    refine (symbol_any (s[0]'h0).toNat _).mono ?_
    rintro e1 w1 ⟨rfl, hb1⟩
    rw [hd.out]
    have HR1 := Lib.hid (HR.out.below hb1 HR.out.lt)
    have HB1 := Lib.hid (HA.out.trans (hb1.mono HA.out.size))
    clear hb1 HR HA
    cases ho : opB (by_ s 0)
    · have HN := Lib.hid (show ¬ Sym0 s from fun h2 => by have := h2.2; rw [ho] at this; cases this)
      have hR3 := HR1.out
      have t0 := hR3.cell 0
      have t1 := hR3.cell 1
      have f0 := hR3.frozen 0
      have f1 := hR3.frozen 1
      simp only [List.getElem?_toArray, List.getElem?_cons_zero, List.getElem?_cons_succ] at t0 t1
      have HP := Lib.hid (box_two (x := .int .i64 0) (y := .string ⟨#[]⟩) hR3)
      have HQ := Lib.hid (below_two HB1.out (Nat.le_refl _) (.int .i64 0) (.string ⟨#[]⟩))
      clear hR3 ho
      go_wp2_with fail
      have g0 := HP.out.cell 0
      have g1 := HP.out.cell 1
      simp at g0 g1
      refine bodyPost_ret (v := .tuple #[.agg #[.int .i64 0, .string ⟨#[]⟩], .bool false]) ?_ rfl ⟨⟨0, ⟨#[]⟩, false, rfl, symP_out HN.out⟩, HQ.out⟩
      simp [results, Tryd.results13, go_sem, g0, g1]
    · have HS := Lib.hid (show Sym0 s from ⟨h0, ho⟩)
      clear ho
      go_wp2_with fail
      refine (symData_any s hs HS.out _ (Utf8Tabs_below HT.out HB1.out)).mono ?_
      rintro e2 w2 ⟨⟨k, d, err, r, rfl, hsy, hcase⟩, hb2⟩
      have HSY := Lib.hid hsy
      have hR2 := (HR1.out.below hb2 HR1.out.lt).alloc (.cells #[.int .i64 k, .string d] 60)
      have hB2 := (HB1.out.trans (hb2.mono HB1.out.size)).alloc (HB1.out.trans (hb2.mono HB1.out.size)).size (.cells #[.int .i64 k, .string d] 60)
      have t0 := hR2.cell 0
      have t1 := hR2.cell 1
      have f0 := hR2.frozen 0
      have f1 := hR2.frozen 1
      simp only [List.getElem?_toArray, List.getElem?_cons_zero, List.getElem?_cons_succ] at t0 t1
      clear hb2 hsy HR1 HB1
      have key : (r = none ∧ ∃ t v, err = .iface t v) ∨ ((r = none ∨ r = some none) ∧ err = .nilIface ∧ k = -1) ∨ (r = some (some (k, d)) ∧ err = .nilIface) := by
        rcases hcase with h | ⟨h1, h2⟩ | h
        · exact .inl h
        · exact .inr (.inl ⟨.inr h1, h2⟩)
        · exact .inr (.inr h)
      clear hcase
      rcases key with ⟨hr, t, v, rfl⟩ | ⟨hr, rfl, rfl⟩ | ⟨hr, rfl⟩
      · have HP := Lib.hid (box_two (x := .int .i64 0) (y := .string ⟨#[]⟩) hR2)
        have HQ := Lib.hid (below_two hB2 (Nat.le_refl _) (.int .i64 0) (.string ⟨#[]⟩))
        have HF := Lib.hid (symP_no (k := 0) (d := ⟨#[]⟩) HS.out HSY.out (.inl hr))
        clear hR2 hB2 hr
        go_wp2_with fail
        have g0 := HP.out.cell 0
        have g1 := HP.out.cell 1
        simp at g0 g1
        refine bodyPost_ret (v := .tuple #[.agg #[.int .i64 0, .string ⟨#[]⟩], .bool false]) ?_ rfl ⟨⟨0, ⟨#[]⟩, false, rfl, HF.out⟩, HQ.out⟩
        simp [results, Tryd.results13, go_sem, g0, g1]
      · have HP := Lib.hid (box_two (x := .int .i64 0) (y := .string ⟨#[]⟩) hR2)
        have HQ := Lib.hid (below_two hB2 (Nat.le_refl _) (.int .i64 0) (.string ⟨#[]⟩))
        have HF := Lib.hid (symP_no (k := 0) (d := ⟨#[]⟩) HS.out HSY.out hr)
        clear hR2 hB2 hr
        go_wp2_with fail
        have g0 := HP.out.cell 0
        have g1 := HP.out.cell 1
        simp at g0 g1
        refine bodyPost_ret (v := .tuple #[.agg #[.int .i64 0, .string ⟨#[]⟩], .bool false]) ?_ rfl ⟨⟨0, ⟨#[]⟩, false, rfl, HF.out⟩, HQ.out⟩
        simp [results, Tryd.results13, go_sem, g0, g1]
      · subst hr
        have hk := tok_pos HSY.out
        have HP := Lib.hid (box_two (x := .int .i64 k) (y := .string d) hR2)
        have HQ := Lib.hid (below_two hB2 (Nat.le_refl _) (.int .i64 k) (.string d))
        have HF := Lib.hid (symP_tok HS.out HSY.out)
        have hlt : ¬ k < 0 := by omega
        clear hR2 hB2 hk
        go_wp2_with fail
        have g0 := HP.out.cell 0
        have g1 := HP.out.cell 1
        simp at g0 g1
        refine bodyPost_ret (v := .tuple #[.agg #[.int .i64 k, .string d], .bool true]) ?_ rfl ⟨⟨k, d, true, rfl, HF.out⟩, HQ.out⟩
        simp [results, Tryd.results13, go_sem, g0, g1]
end Go.Proofs.YtpgmnggicmbacaaDoor
