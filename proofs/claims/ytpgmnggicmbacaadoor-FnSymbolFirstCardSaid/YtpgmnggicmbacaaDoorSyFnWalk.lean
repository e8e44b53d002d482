/-
  The statement's function.
-/
import Derived.Test.YtpgmnggicmbacaaDoorSyOne
import Derived.Test.YtpgmnggicmbacaaDoorSyFirst
namespace Go.Proofs.YtpgmnggicmbacaaDoor
open Go.Shelf Go.RowKit
set_option linter.unusedVariables false
set_option linter.unusedSimpArgs false

def TruePost (w : World) (e : Ending) (w' : World) : Prop := e = .returned (.bool true) ∧ Below w.heap.size w w'
theorem box_cells2 {w : World} {g : Nat} {t : TypeId} {a c : Value} (h : Blk w g t #[a, c]) : w.cell? ⟨g, 0, none⟩ = some a ∧ w.cell? ⟨g, 1, none⟩ = some c := ⟨h.cell 0, h.cell 1⟩
theorem box_cells6 {w : World} {g : Nat} {t : TypeId} {a0 a1 a2 a3 a4 a5 : Value} (h : Blk w g t #[a0, a1, a2, a3, a4, a5]) : w.cell? ⟨g, 0, none⟩ = some a0 ∧ w.cell? ⟨g, 1, none⟩ = some a1 ∧ w.cell? ⟨g, 2, none⟩ = some a2 ∧ w.cell? ⟨g, 3, none⟩ = some a3 ∧ w.cell? ⟨g, 4, none⟩ = some a4 ∧ w.cell? ⟨g, 5, none⟩ = some a5 := ⟨h.cell 0, h.cell 1, h.cell 2, h.cell 3, h.cell 4, h.cell 5⟩
set_option maxRecDepth 100000 in
set_option maxHeartbeats 6400000 in
theorem symbolFirst_walk (s : ByteArray) (hs : s.size ≤ maxLen) (w : World) (hT : Lib.Utf8Tabs 0 1 w) : Calls Tryd.prog 5 #[.string s] w (TruePost w) := by
  have HT := Lib.hid hT
  clear hT
  unfold maxLen at hs
  by_cases hbig : 2147483647 < s.size
  · go_enter Tryd.func5, Tryd.ntmps5
    go_wp2_with fail
    go_ret
    exact ⟨rfl, Below.refl _ _⟩
  · by_cases h2 : s.size ≤ 2000
    · have hsm : ¬ (2000 : Int) < (s.size : Int) := by omega
      go_enter Tryd.func5, Tryd.ntmps5
      go_wp2_with fail
      refine (symbol1_any s (by omega) _ HT.out).mono ?_
      rintro e1 w1 ⟨⟨k, d, is, rfl, hP⟩, hb1⟩
      have HP := Lib.hid hP
      have HB3 := Lib.hid (Blk.new w1 32 #[.int .i64 k, .string d])
      have HB1 := Lib.hid (hb1.alloc hb1.size (.cells #[.int .i64 k, .string d] 32))
      have hw1 : w.heap.size ≤ w1.heap.size := hb1.size
      clear hP hb1
      go_wp2_with fail
      refine (isIn9_any s _).mono ?_
      rintro e2 w2 ⟨rfl, rfl⟩
      cases hin : (decide (0 < s.size) && opB (by_ s 0))
      · have hn : ¬ Sym0 s := fun h => by
          rw [decide_eq_true h.1, h.2] at hin
          cases hin
        obtain rfl : is = false := HP.out.1 hn
        clear hin hn
        go_wp2_with fail
        go_ret
        exact ⟨rfl, HB1.out⟩
      · have h0 : Sym0 s := by
          rw [Bool.and_eq_true, decide_eq_true_eq] at hin
          exact hin
        have HS := Lib.hid h0
        clear hin h0
        go_wp2_with fail
        refine (spec_First_any s (by omega) HS.out _).mono ?_
        rintro e3 w3 ⟨⟨k2, fm, tx, vl, fr, tq, ok, sure, rfl, hF⟩, hb3⟩
        have HF := Lib.hid hF
        have hz : (w1.alloc (.cells #[.int .i64 k, .string d] 32)).heap.size = w1.heap.size + 1 := by simp
        have hsz3 := hb3.size
        have HB4 := Lib.hid ((HB3.out.below hb3 (by omega)).alloc (.cells #[.int .i64 k2, .int .i64 fm, .string tx, .string vl, .int .i64 fr, .int .i64 tq] 37))
        have HB5 := Lib.hid (Blk.new w3 37 #[.int .i64 k2, .int .i64 fm, .string tx, .string vl, .int .i64 fr, .int .i64 tq])
        have hb4 := (HB1.out.trans (hb3.mono (by omega)))
        have HB6 := Lib.hid (hb4.alloc hb4.size (.cells #[.int .i64 k2, .int .i64 fm, .string tx, .string vl, .int .i64 fr, .int .i64 tq] 37))
        clear hF hb3 hb4 HB1 HB3 hz hsz3
        unfold tokV
        cases sure
        · clear HF
          go_wp2_with fail
          go_ret
          exact ⟨rfl, HB6.out⟩
        · have hF := HF.out rfl
          clear HF
          cases ok
          · obtain rfl : is = false := law_no HP.out hF HS.out
            clear hF
            go_wp2_with fail
            go_ret
            exact ⟨rfl, HB6.out⟩
          · obtain ⟨rfl, hcase⟩ := law_yes HP.out hF HS.out
            clear hF HP
            go_upto_region 13 with fail
            obtain ⟨W, hW⟩ : ∃ W, w3.alloc (.cells #[.int .i64 k2, .int .i64 fm, .string tx, .string vl, .int .i64 fr, .int .i64 tq] 37) = W := ⟨_, rfl⟩
            rw [hW] at HB4 HB5 HB6 ⊢
            clear hW
            obtain ⟨a0, a1⟩ := box_cells2 HB4.out
            obtain ⟨b0, b1, b2, b3, b4, b5⟩ := box_cells6 HB5.out
            generalize w1.heap.size = g1 at a0 a1 ⊢
            generalize w3.heap.size = g3 at b0 b1 b2 b3 b4 b5 ⊢
            have l0 := fun y : Later W => Later.cell a0 y
            have l1 := fun y : Later W => Later.cell a1 y
            have m0 := fun y : Later W => Later.cell b0 y
            have m1 := fun y : Later W => Later.cell b1 y
            have m2 := fun y : Later W => Later.cell b2 y
            have m3 := fun y : Later W => Later.cell b3 y
            have m4 := fun y : Later W => Later.cell b4 y
            have m5 := fun y : Later W => Later.cell b5 y
            clear a0 a1 b0 b1 b2 b3 b4 b5 HB4 HB5
            rcases hcase with ⟨rfl, rfl, rfl, rfl, rfl⟩ | ⟨rfl, rfl, hk⟩
            · have K1 := Lib.hid (fun y : Later W => kindOf_block ⟨#[]⟩ d fr tq y.val)
              have K2 := Lib.hid (fun y : Later W => textOf_block ⟨#[]⟩ d fr tq y.val)
              refine wp_region_later (by kernel_rfl) (by kernel_rfl) ?_
              repeat (go_big_quiet_step (first | (go_at_call 16; exact later_call (K1.out _)) | (go_at_call 17; exact later_call (K2.out _))))
              refine wpQuiet_nil ?_
              rintro w9 ⟨y, rfl⟩
              go_wp2_with fail
              go_ret
              exact ⟨by simp, HB6.out.trans (y.ok.mono HB6.out.size)⟩
            · have hq := dollar_beq d
              by_cases hd : d = dollarT
              · rw [decide_eq_true hd] at hq
                rw [if_pos hd] at hk
                have K1 := Lib.hid (fun y : Later W => kindOf_op d vl fm fr tq y.val)
                rw [if_pos hd] at K1
                have K2 := Lib.hid (fun y : Later W => textOf_op d vl fm fr tq y.val)
                subst hk
                clear hd
                refine wp_region_later (by kernel_rfl) (by kernel_rfl) ?_
                repeat (go_big_quiet_step (first | (go_at_call 16; exact later_call (K1.out _)) | (go_at_call 17; exact later_call (K2.out _))))
                refine wpQuiet_nil ?_
                rintro w9 ⟨y, rfl⟩
                go_wp2_with fail
                go_ret
                exact ⟨by simp, HB6.out.trans (y.ok.mono HB6.out.size)⟩
              · rw [decide_eq_false hd] at hq
                rw [if_neg hd] at hk
                have K1 := Lib.hid (fun y : Later W => kindOf_op d vl fm fr tq y.val)
                rw [if_neg hd] at K1
                have K2 := Lib.hid (fun y : Later W => textOf_op d vl fm fr tq y.val)
                subst hk
                clear hd
                refine wp_region_later (by kernel_rfl) (by kernel_rfl) ?_
                repeat (go_big_quiet_step (first | (go_at_call 16; exact later_call (K1.out _)) | (go_at_call 17; exact later_call (K2.out _))))
                refine wpQuiet_nil ?_
                rintro w9 ⟨y, rfl⟩
                go_wp2_with fail
                go_ret
                exact ⟨by simp, HB6.out.trans (y.ok.mono HB6.out.size)⟩
    · have hsm : (2000 : Int) < (s.size : Int) := by omega
      go_enter Tryd.func5, Tryd.ntmps5
      go_wp2_with fail
      go_ret
      exact ⟨rfl, Below.refl _ _⟩
end Go.Proofs.YtpgmnggicmbacaaDoor
