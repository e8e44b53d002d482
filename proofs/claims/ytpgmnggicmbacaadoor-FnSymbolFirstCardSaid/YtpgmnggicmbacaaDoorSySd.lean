/-
  SymbolData; impl.Symbol1.
-/
import Derived.Test.YtpgmnggicmbacaaDoorSyJoin
import Derived.Test.YtpgmnggicmbacaaDoorSyData
namespace Go.Proofs.YtpgmnggicmbacaaDoor
open Go.Shelf Go.RowKit
set_option linter.unusedVariables false
set_option linter.unusedSimpArgs false

/-- What SymbolData answers. -/
def SdPost (s : ByteArray) (w : World) (e : Ending) (w' : World) : Prop :=
  (∃ (k : Int) (d : ByteArray) (err : Value) (r : Option (Option (Int × ByteArray))), e = .returned (.tuple #[.agg #[.int .i64 k, .string d], err]) ∧ SyR s r ∧
    ((r = none ∧ ∃ t v, err = .iface t v) ∨ (r = some none ∧ err = .nilIface ∧ k = -1) ∨ (r = some (some (k, d)) ∧ err = .nilIface))) ∧ Below w.heap.size w w'
/-- Two cells of a box are written. -/
theorem box_two {w : World} {g : Nat} {t : TypeId} {a c x y : Value} (h : Blk w g t #[a, c]) : Blk ((w.setCell ⟨g, 0, none⟩ x).setCell ⟨g, 1, none⟩ y) g t #[x, y] := by
  have := (h.set_ 0 x).set_ 1 y
  simpa using this
theorem below_two {w wr : World} {B g : Nat} (h : Below B w wr) (hg : B ≤ g) (x y : Value) : Below B w ((wr.setCell ⟨g, 0, none⟩ x).setCell ⟨g, 1, none⟩ y) := (h.setCell (p := ⟨g, 0, none⟩) hg x).setCell (p := ⟨g, 1, none⟩) hg y
set_option maxRecDepth 100000 in
set_option maxHeartbeats 3200000 in
theorem symData_any (s : ByteArray) (hs : s.size ≤ 1000000) (h0 : Sym0 s) (w : World) (hT : Lib.Utf8Tabs 0 1 w) : Calls Tryd.prog 26 #[.string s] w (SdPost s w) := by
  have HT := Lib.hid hT
  have HS0 := Lib.hid h0
  have HR := Lib.hid (Blk.new w 60 #[.int .i64 0, .string ⟨#[]⟩])
  have HA := Lib.hid (below_alloc1 w (.cells #[.int .i64 0, .string ⟨#[]⟩] 60))
  clear hT h0
  go_enter Tryd.func26, Tryd.ntmps26
  go_wp2_with fail
  refine (makeLexerK _ _ s hs _).mono ?_
  rintro e1 w1 ⟨⟨b, src, rfl, hb, hl⟩, hb1⟩
  have hz : (w.alloc (.cells #[.int .i64 0, .string ⟨#[]⟩] 60)).heap.size = w.heap.size + 1 := by simp
  have hb2 : w.heap.size < b := by omega
  have HK : Hid (LexK w1 b s (K0 ⟨#[]⟩ ⟨#[]⟩ src) 0 0) := Lib.hid hl
  have hbb : Below w.heap.size w w1 := HA.out.trans (hb1.mono (by omega))
  have HTA := Lib.hid (show TabsAt b w1 from ⟨w, HT.out, by omega, hbb⟩)
  have HB1 := Lib.hid hbb
  have HR1 := Lib.hid (HR.out.below hb1 (by omega))
  have hs1 : w.heap.size ≤ w1.heap.size := hbb.size
  clear hl hb1 hb hz hbb HR HA
  go_wp2_with fail
  refine (lexSym_any b s _ _ src hs HS0.out _ HK.out HTA.out).mono ?_
  rintro e2 w2 ⟨hg, hcase⟩
  have HB2 := Lib.hid (HB1.out.trans (grown_toBelow hg (Nat.le_of_lt hb2) hs1))
  have HR2 := Lib.hid (HR1.out.grown hg (fun e => by injection e with e; omega))
  clear hg HR1 HB1 HTA HK
  rcases hcase with ⟨t, v, rfl, hR⟩ | ⟨rfl, hc4, hR⟩ | ⟨k, d, rfl, ht, hR⟩
  · have HRR := Lib.hid hR
    clear hR
    go_wp2_with fail
    refine (first_err b t v _).mono ?_
    rintro e3 w3 ⟨rfl, hb3⟩
    have hR3 := HR2.out.below hb3 HR2.out.lt
    have t0 := hR3.cell 0
    have t1 := hR3.cell 1
    have f0 := hR3.frozen 0
    have f1 := hR3.frozen 1
    simp only [List.getElem?_toArray, List.getElem?_cons_zero, List.getElem?_cons_succ] at t0 t1
    have hB3 := HB2.out.trans (hb3.mono HB2.out.size)
    have HP := Lib.hid (box_two (x := .int .i64 (-1)) (y := .string ⟨#[]⟩) hR3)
    have HQ := Lib.hid (below_two hB3 (Nat.le_refl _) (.int .i64 (-1)) (.string ⟨#[]⟩))
    clear hR3 hB3 hb3
    go_wp2_with fail
    have g0 := HP.out.cell 0
    have g1 := HP.out.cell 1
    simp at g0 g1
    refine bodyPost_ret (v := .tuple #[.agg #[.int .i64 (-1), .string ⟨#[]⟩], .iface t v]) ?_ rfl ⟨⟨-1, ⟨#[]⟩, _, none, rfl, HRR.out, .inl ⟨rfl, t, v, rfl⟩⟩, HQ.out⟩
    simp [results, Tryd.results26, go_sem, g0, g1]
  · have HRR := Lib.hid hR
    have HC := Lib.hid hc4
    clear hR hc4
    go_wp2_with fail
    refine (first_none b _ HC.out).mono ?_
    rintro e3 w3 ⟨rfl, hb3⟩
    have hR3 := HR2.out.below hb3 HR2.out.lt
    have t0 := hR3.cell 0
    have t1 := hR3.cell 1
    have f0 := hR3.frozen 0
    have f1 := hR3.frozen 1
    simp only [List.getElem?_toArray, List.getElem?_cons_zero, List.getElem?_cons_succ] at t0 t1
    have hB3 := HB2.out.trans (hb3.mono HB2.out.size)
    have HP := Lib.hid (box_two (x := .int .i64 (-1)) (y := .string ⟨#[]⟩) hR3)
    have HQ := Lib.hid (below_two hB3 (Nat.le_refl _) (.int .i64 (-1)) (.string ⟨#[]⟩))
    clear hR3 hB3 hb3
    go_wp2_with fail
    have g0 := HP.out.cell 0
    have g1 := HP.out.cell 1
    simp at g0 g1
    refine bodyPost_ret (v := .tuple #[.agg #[.int .i64 (-1), .string ⟨#[]⟩], .nilIface]) ?_ rfl ⟨⟨-1, ⟨#[]⟩, _, some none, rfl, HRR.out, .inr (.inl ⟨rfl, rfl, rfl⟩)⟩, HQ.out⟩
    simp [results, Tryd.results26, go_sem, g0, g1]
  · have HRR := Lib.hid hR
    have HC := Lib.hid ht
    clear hR ht
    go_wp2_with fail
    refine (first_tok b _ k d HC.out).mono ?_
    rintro e3 w3 ⟨rfl, hb3⟩
    have hR3 := HR2.out.below hb3 HR2.out.lt
    have t0 := hR3.cell 0
    have t1 := hR3.cell 1
    have f0 := hR3.frozen 0
    have f1 := hR3.frozen 1
    simp only [List.getElem?_toArray, List.getElem?_cons_zero, List.getElem?_cons_succ] at t0 t1
    have hB3 := HB2.out.trans (hb3.mono HB2.out.size)
    have HP := Lib.hid (box_two (x := .int .i64 k) (y := .string d) hR3)
    have HQ := Lib.hid (below_two hB3 (Nat.le_refl _) (.int .i64 k) (.string d))
    clear hR3 hB3 hb3
    go_wp2_with fail
    have g0 := HP.out.cell 0
    have g1 := HP.out.cell 1
    simp at g0 g1
    refine bodyPost_ret (v := .tuple #[.agg #[.int .i64 k, .string d], .nilIface]) ?_ rfl ⟨⟨k, d, _, some (some (k, d)), rfl, HRR.out, .inr (.inr ⟨rfl, rfl⟩)⟩, HQ.out⟩
    simp [results, Tryd.results26, go_sem, g0, g1]
end Go.Proofs.YtpgmnggicmbacaaDoor
