/-
  The lexer's next: one rune on.
-/
import Derived.Test.YtpgmnggicmbacaaDoorSrLex
import Derived.IntWalk
namespace Go.Proofs.YtpgmnggicmbacaaDoor
open Go.Shelf Go.RowKit

/-- Where the lexer stands behind a rune. -/
def nextP (s : ByteArray) (pos : Nat) : Nat := if pos < s.size then pos + (Utf8.decode s pos).2 else pos
def NxPost (b : Nat) (s : ByteArray) (pos : Nat) (w : World) (e : Ending) (w' : World) : Prop := e = .returned (.int .i32 (peekR s pos)) ∧ Lexer w' b s (nextP s pos) ∧ Below b w w'

set_option maxRecDepth 100000 in
set_option maxHeartbeats 3200000 in
theorem next_any (b : Nat) (s : ByteArray) (pos : Nat) (hs : s.size ≤ 1000000) (hp : pos ≤ s.size + 4) (w : World) (h : Lexer w b s pos) (hT : Lib.Utf8Tabs 0 1 w) :
    Calls Tryd.prog 60 #[.pointer (some ⟨b, 0, none⟩)] w (NxPost b s pos w) := by
  obtain ⟨f, g, src, fod, tok, ts, tl, tc, fr, ln, ls, hB, hl0, hl1⟩ := h
  have c2 := hB.cell 2
  have c10 := hB.cell 10
  simp only [cellsX, List.getElem?_toArray, List.getElem?_cons_zero, List.getElem?_cons_succ] at c2 c10
  have HT := Lib.hid hT
  have HB := Lib.hid hB
  have hbl : b < w.heap.size := hB.lt
  have hbw := hbl
  clear hT hB
  by_cases hlt : pos < s.size
  · have hge : decide ((pos : Int) ≥ (s.size : Int)) = false := by simp; omega
    have z0 : (0 : Int) ≤ (pos : Int) := by omega
    have z1 : (pos : Int) ≤ (s.size : Int) := by omega
    unfold NxPost peekR nextP
    rw [if_pos hlt, if_pos hlt]
    have hwl := width_le s pos
    have hwp := width_pos s pos hlt
    go_enter Tryd.func60, Tryd.ntmps60
    go_wp2_with fail
    go_quiet ((fail))
    have HQ := Lib.hid (below_drewB (Below.refl w.heap.size w) nq)
    have c2 : (w.drewN nq).cell? ⟨b, 2, none⟩ = some (.string s) := c2
    have c10 : (w.drewN nq).cell? ⟨b, 10, none⟩ = some (.int .i64 pos) := c10
    have HT1 := Lib.hid (Utf8Tabs_below HT.out HQ.out)
    have HB1 : Hid (Blk (w.drewN nq) b 81 (cellsX f g s src fod tok ts tl tc fr pos ln ls)) := Lib.hid HB.out
    have hbl : b < (w.drewN nq).heap.size := hbl
    clear HT HB
    go_wp2_with fail
    generalize w.drewN nq = w1 at *
    have K := Lib.hid (rune_at s pos hlt w1.drew (Utf8Tabs_below HT1.out (Below.refl _ _).drew))
    generalize hrn : (Utf8.decode s pos).1 = rn at *
    generalize hwd : (Utf8.decode s pos).2 = wd at *
    have HRN := Lib.hid hrn
    have HWD := Lib.hid hwd
    clear hrn hwd
    go_region_held3 (fun w' => Below w1.heap.size w1 w' ∧ w'.cell? ⟨b, 2, none⟩ = some (.string s) ∧ w'.cell? ⟨b, 10, none⟩ = some (.int .i64 pos))
      ((refine keep2x ?_ c2 c10; repeat (first | with_reducible exact Below.refl _ _ | with_reducible exact hk9 | with_reducible apply Below.drew)))
      ((go_at_call 32; refine K.out.mono ?_; rintro e9 w9 ⟨rfl, hb9⟩; have hk9 : Below w1.heap.size w1 w9 := (Below.refl w1.heap.size w1).drew.trans hb9))
    all_goals
      have hB9 := HB1.out.below hk9 hbl
      have f10 := hB9.frozen 10
      have d10 := hB9.cell 10
      simp only [cellsX, List.getElem?_toArray, List.getElem?_cons_zero, List.getElem?_cons_succ] at d10
      have wr1 : IntKind.i64.wrap ((pos : Int) + (wd : Int)) = (pos : Int) + (wd : Int) := IntWalk.i64_in _ (by omega)
      have hb9 : Below b w w9 := (HQ.out.mono (Nat.le_of_lt hbw)).trans (hk9.mono (Nat.le_of_lt hbl))
      obtain ⟨v1, hv1⟩ : ∃ v : Value, v = .int .i64 ((pos : Int) + (wd : Int)) := ⟨_, rfl⟩
      have hS4 : Blk (w9.setCell ⟨b, 10, none⟩ (.int .i64 ((pos : Int) + (wd : Int)))) b 81 (cellsX f g s src fod tok ts tl tc fr (pos + wd) ln ls) := by simpa [cellsX] using hB9.set_ 10 (.int .i64 ((pos : Int) + (wd : Int)))
      have e10 := hS4.cell 10
      have e9 := hS4.cell 9
      have f12 := hS4.frozen 12
      have f9 := hS4.frozen 9
      have hS5 : Blk ((w9.setCell ⟨b, 10, none⟩ (.int .i64 ((pos : Int) + (wd : Int)))).setCell ⟨b, 12, none⟩ (.int .i64 ((pos : Int) + (wd : Int)))) b 81 (cellsX f g s src fod tok ts tl tc fr (pos + wd) ln ((pos : Int) + (wd : Int))) := by simpa [cellsX] using hS4.set_ 12 (.int .i64 ((pos : Int) + (wd : Int)))
      have e11 := hS5.cell 11
      have f11 := hS5.frozen 11
      have hS6 : Blk (((w9.setCell ⟨b, 10, none⟩ (.int .i64 ((pos : Int) + (wd : Int)))).setCell ⟨b, 12, none⟩ (.int .i64 ((pos : Int) + (wd : Int)))).setCell ⟨b, 11, none⟩ (.int .i64 (ln + 1))) b 81 (cellsX f g s src fod tok ts tl tc fr (pos + wd) (ln + 1) ((pos : Int) + (wd : Int))) := by simpa [cellsX] using hS5.set_ 11 (.int .i64 (ln + 1))
      have f9' := hS6.frozen 9
      have e12 := hS4.cell 12
      have e9' := hS6.cell 9
      have wln : IntKind.i64.wrap (ln + 1) = ln + 1 := IntWalk.i64_in _ (by omega)
      simp only [cellsX, List.getElem?_toArray, List.getElem?_cons_zero, List.getElem?_cons_succ, Int.natCast_add] at e10 e9 e11 e12 e9'
      have H4 := Lib.hid hS4
      have H6 := Lib.hid hS6
      have HB9 := Lib.hid hb9
      clear hS4 hS5 hS6 hb9 hv1 hB9
      rcases hr : ((rn : Int) == 10) with _ | _
      · have KW := Lib.hid (isW_any (rn : Int) (w9.setCell ⟨b, 10, none⟩ (.int .i64 ((pos : Int) + (wd : Int)))))
        cases fr
        · go_wp2_with fail
          go_ret
          have hrn := HRN.out
          have hwd := HWD.out
          subst hrn hwd
          exact ⟨rfl, ⟨f, g, src, fod, tok, ts, tl, tc, false, ln, ls, H4.out, hl0, by omega⟩, HB9.out.setCell (p := ⟨b, 10, none⟩) (Nat.le_refl _) _⟩
        · go_wp2_with fail
          refine KW.out.mono ?_
          rintro e8 w8 ⟨rfl, rfl⟩
          cases isW (rn : Int)
          · go_wp2_with fail
            go_ret
            have hrn := HRN.out
            have hwd := HWD.out
            subst hrn hwd
            exact ⟨rfl, ⟨f, g, src, fod, tok, ts, tl, tc, false, ln, ls, by simpa [cellsX] using H4.out.set_ 9 (.bool false), hl0, by omega⟩, (HB9.out.setCell (p := ⟨b, 10, none⟩) (Nat.le_refl _) _).setCell (p := ⟨b, 9, none⟩) (Nat.le_refl _) _⟩
          · go_wp2_with fail
            go_ret
            have hrn := HRN.out
            have hwd := HWD.out
            subst hrn hwd
            exact ⟨rfl, ⟨f, g, src, fod, tok, ts, tl, tc, true, ln, ls, H4.out, hl0, by omega⟩, HB9.out.setCell (p := ⟨b, 10, none⟩) (Nat.le_refl _) _⟩
      · go_wp2_with fail
        go_ret
        have hrn := HRN.out
        have hwd := HWD.out
        subst hrn hwd
        exact ⟨rfl, ⟨f, g, src, fod, tok, ts, tl, tc, true, ln + 1, _, by simpa [cellsX] using H6.out.set_ 9 (.bool true), by omega, by omega⟩, (((HB9.out.setCell (p := ⟨b, 10, none⟩) (Nat.le_refl _) _).setCell (p := ⟨b, 12, none⟩) (Nat.le_refl _) _).setCell (p := ⟨b, 11, none⟩) (Nat.le_refl _) _).setCell (p := ⟨b, 9, none⟩) (Nat.le_refl _) _⟩
  · have hge : decide ((pos : Int) ≥ (s.size : Int)) = true := by simp; omega
    unfold NxPost peekR nextP
    rw [if_neg hlt, if_neg hlt]
    go_enter Tryd.func60, Tryd.ntmps60
    go_wp2_with fail
    go_quiet ((fail))
    go_wp2_with fail
    go_ret
    exact ⟨rfl, ⟨f, g, src, fod, tok, ts, tl, tc, fr, ln, ls, HB.out, hl0, hl1⟩, below_drewB (Below.refl _ _) _⟩
end Go.Proofs.YtpgmnggicmbacaaDoor
