/-
  formatter's LiteralString: a string is written another way.
-/
import Derived.Test.YtpgmnggicmbacaaGreatDoorSsHas
import Derived.Test.YtpgmnggicmbacaaGreatDoorEsUn
import Derived.Test.YtpgmnggicmbacaaGreatDoorEsEsc
import Derived.Deep.QuietTactic
import Derived.BigQuiet
import Derived.Deep.RegionHeld3
namespace Go.Proofs.YtpgmnggicmbacaaGreatDoor
open Go.Shelf Go.RowKit

def useS (v : ByteArray) (y : Nat) : Bool := if hasQ v 34 then true else if hasQ v 39 then false else y == 1
/-- What a string becomes, and how it is written then. -/
def styled (v s : ByteArray) (k y : Nat) : ByteArray × Nat :=
  if (hasQ v 39 && hasQ v 34) = true then (s, k) else (⟨(runE v (useS v y) v.size 0 []).toArray⟩, if useS v y then 0 else 1)
set_option maxRecDepth 100000 in
theorem loc_any (b o : Nat) (w : World) : Calls Tryz.prog 23 #[.pointer (some ⟨b, o, none⟩)] w fun e w' => e = .returned (.pointer (some ⟨b, o + 3, none⟩)) ∧ w = w' := by
  go_enter Tryz.func23, Tryz.ntmps23
  go_wp2
  go_ret
  exact ⟨rfl, rfl⟩
theorem keep3x {w w' : World} (hb : Below w.heap.size w w') {p1 p2 p3 : Addr} {u1 u2 u3 : Value} (c1 : w.cell? p1 = some u1) (c2 : w.cell? p2 = some u2) (c3 : w.cell? p3 = some u3) :
    Below w.heap.size w w' ∧ w'.cell? p1 = some u1 ∧ w'.cell? p2 = some u2 ∧ w'.cell? p3 = some u3 :=
  have k : ∀ {p : Addr} {u : Value}, w.cell? p = some u → w'.cell? p = some u := fun {p} {_} h => (hb.cell (World.block_lt_of_cell? w p h)).trans h
  ⟨hb, k c1, k c2, k c3⟩
def LsPost (bl : Nat) (out : ByteArray) (asK : Nat) (w : World) (e : Ending) (w' : World) : Prop :=
  e = .returned (.tuple #[]) ∧ w'.cell? ⟨bl, 0, none⟩ = some (.string out) ∧ w'.cell? ⟨bl, 12, none⟩ = some (.int .i64 asK) ∧ Below bl w w'
/-- What stands at the head of a round. -/
def LtI (v : ByteArray) (w9 wr : World) (p n1 n2 : Nat) : Prop :=
  Tail v p ∧ decide (0 < n1) = hasUp v 39 p ∧ decide (0 < n2) = hasUp v 34 p ∧ Below w9.heap.size w9 wr ∧ wr.heap[w9.heap.size]? = some (.stringIter v p)
set_option maxRecDepth 100000 in
set_option maxHeartbeats 6400000 in
theorem literal_any (bl bc : Nat) (s v : ByteArray) (k y : Nat) (p ctx : Value) (x1 x2 x3 x4 x5 x6 x7 x8 x9 x10 x11 : Value) (hs : s.size ≤ 1000000) (hv : v.size ≤ 10000000) (hk : k < 2) (hy : y < 2) (w : World) (hT : Tabs3 w)
    (hB : Blk w bl 56 #[.string s, x1, x2, x3, x4, x5, x6, x7, x8, x9, x10, x11, .int .i64 k]) (hC : w.cell? ⟨bc, 2, none⟩ = some (.int .i64 y))
    (hr : runP s s.size 0 [] = some v.data.toList) (ht : Tail v 0) :
    Calls Tryz.prog 13 #[.pointer (some ⟨bc, 0, none⟩), p, .pointer (some ⟨bl, 0, none⟩), ctx] w (LsPost bl (styled v s k y).1 (styled v s k y).2 w) := by
  have c0 := hB.cell 0
  have c12 := hB.cell 12
  simp only [List.getElem?_toArray, List.getElem?_cons_zero, List.getElem?_cons_succ] at c0 c12
  have HLoc := Lib.hid (show LocAt w bl 6 x6 x7 x8 x9 x10 x11 from ⟨hB.cell 6, hB.cell 7, hB.cell 8, hB.cell 9, hB.cell 10, hB.cell 11⟩)
  have hbl : bl < w.heap.size := hB.lt
  have HT := Lib.hid hT
  have HB := Lib.hid hB
  have HR := Lib.hid hr
  have HTL := Lib.hid ht
  have q2 : ((k : Int) == 2) = false := by simp; omega
  have q3 : ((k : Int) == 3) = false := by simp; omega
  have q4 : ((k : Int) == 4) = false := by simp; omega
  clear hT hB hr ht
  have K := Lib.hid (show Calls Tryz.prog 12 #[.pointer (some ⟨bl, 6, none⟩), .string s] w.drew fun e w' => e = .returned (.tuple #[.string v, .nilIface]) ∧ Below w.heap.size w w' from by
    refine (unescape_any bl 6 x6 x7 x8 x9 x10 x11 s (by omega) w.drew (HT.out.below (Below.refl _ _).drew) HLoc.out).mono ?_
    rintro e w1 ⟨h1, h2⟩
    rw [HR.out] at h1
    refine ⟨?_, (Below.refl w.heap.size w).drew.trans h2⟩
    rw [h1])
  go_enter Tryz.func13, Tryz.ntmps13
  go_wp2_with fail
  clear q2 q3 q4
  go_region_held3 (fun w' => Below w.heap.size w w' ∧ w'.cell? ⟨bl, 0, none⟩ = some (.string s) ∧ w'.cell? ⟨bl, 12, none⟩ = some (.int .i64 k) ∧ w'.cell? ⟨bc, 2, none⟩ = some (.int .i64 y))
    ((refine keep3x ?_ c0 c12 hC; repeat (first | with_reducible exact Below.refl _ _ | with_reducible exact hk9 | with_reducible apply Below.drew)))
    (first
      | (go_at_call 23; refine (loc_any bl 3 _).mono ?_; rintro e8 w8 ⟨rfl, rfl⟩)
      | (go_at_call 12; refine K.out.mono ?_; rintro e9 w9 ⟨rfl, hb9⟩; have hk9 : Below w.heap.size w w9 := hb9))
  all_goals
    have hB9 := HB.out.below hk9 hbl
    have hC9 : w9.cell? ⟨bc, 2, none⟩ = some (.int .i64 y) := (hk9.cell (World.block_lt_of_cell? w _ hC)).trans hC
    have HB9 := Lib.hid hB9
    have HC9 := Lib.hid hC9
    have HK9 := Lib.hid hk9
    clear hB9 hC9 c0 c12 hC hk9
    go_wp2_with fail
    go_loopw [10, 11] (fun a b wr => ∃ (p n1 n2 : Nat), a = .int .i64 n1 ∧ b = .int .i64 n2 ∧ p ≤ v.size ∧ n1 ≤ p ∧ n2 ≤ p ∧ Hid (LtI v w9 wr p n1 n2)) (fun _ _ wr => v.size - wr.iterPos w9.heap.size)
    case atStart =>
      refine ⟨0, 0, 0, rfl, rfl, by omega, by omega, by omega, Lib.hid ⟨HTL.out, rfl, rfl, (Below.refl _ _).alloc (Nat.le_refl _) _, ?_⟩⟩
      have := World.iter_heap w9 v 0
      simpa using this
    case round =>
      obtain ⟨p, n1, n2, rfl, rfl, hp4, hn1, hn2, HI⟩ := hrel
      obtain ⟨tl, u1, u2, hbw, hit⟩ := HI.out
      by_cases hp : p < v.size
      · have hnx : ∀ ty, (Instr.next (.pointer (some ⟨w9.heap.size, 0, none⟩)) true ty).run Tryz.prog wr = _ := fun ty => Lib.run_next_any_at wr w9.heap.size v p ty hit hp
        obtain ⟨r, n, hpt, tl2⟩ := tl.step hp
        have hn0 := hpt.1
        have hnl := hpt.2.1
        have e1 := hasUp_rune (c := 39) hpt (by decide)
        have e2 := hasUp_rune (c := 34) hpt (by decide)
        have hdec := hpt.2.2.1
        have hit2 := Lib.iterAt_heap wr w9.heap.size v p (p + n) hit
        have hbw2 := Lib.below_iterAt hbw (k := w9.heap.size) (Nat.le_refl _) v (p + n)
        have HD := Lib.hid hdec
        have q1 : ((((Utf8.decode v p).1 : Nat) : Int) == 39) = decide (r = 39) := by rw [hdec, Bool.eq_iff_iff]; simp; omega
        have q2 : ((((Utf8.decode v p).1 : Nat) : Int) == 34) = decide (r = 34) := by rw [hdec, Bool.eq_iff_iff]; simp; omega
        rw [hdec] at hnx q1 q2
        clear hdec tl
        by_cases c1 : r = 39
        · subst c1
          have HN := Lib.hid (show LtI v w9 (wr.iterAt w9.heap.size v (p + n)) (p + n) (n1 + 1) n2 from ⟨tl2, by rw [e1]; simp, by rw [e2, ← u2]; simp, hbw2, hit2⟩)
          have HM := Lib.hid (show v.size - (wr.iterAt w9.heap.size v (p + n)).iterPos w9.heap.size < v.size - wr.iterPos w9.heap.size by simp only [World.iterPos, hit2, hit]; omega)
          clear hit2 hbw2 e1 e2 u1 u2 HI hbw q1 q2
          go_wp2_with fail
          go_roundw
          case rel => exact ⟨p + n, n1 + 1, n2, by go_num, rfl, by omega, by omega, by omega, HN⟩
          case measure => exact HM.out
        by_cases c2 : r = 34
        · subst c2
          have HN := Lib.hid (show LtI v w9 (wr.iterAt w9.heap.size v (p + n)) (p + n) n1 (n2 + 1) from ⟨tl2, by rw [e1, ← u1]; simp, by rw [e2]; simp, hbw2, hit2⟩)
          have HM := Lib.hid (show v.size - (wr.iterAt w9.heap.size v (p + n)).iterPos w9.heap.size < v.size - wr.iterPos w9.heap.size by simp only [World.iterPos, hit2, hit]; omega)
          clear hit2 hbw2 e1 e2 u1 u2 HI hbw q1 q2
          go_wp2_with fail
          go_roundw
          case rel => exact ⟨p + n, n1, n2 + 1, rfl, by go_num, by omega, by omega, by omega, HN⟩
          case measure => exact HM.out
        · have HN := Lib.hid (show LtI v w9 (wr.iterAt w9.heap.size v (p + n)) (p + n) n1 n2 from ⟨tl2, by rw [e1, ← u1, decide_eq_false c1]; simp, by rw [e2, ← u2, decide_eq_false c2]; simp, hbw2, hit2⟩)
          have HM := Lib.hid (show v.size - (wr.iterAt w9.heap.size v (p + n)).iterPos w9.heap.size < v.size - wr.iterPos w9.heap.size by simp only [World.iterPos, hit2, hit]; omega)
          rw [decide_eq_false c1] at q1
          rw [decide_eq_false c2] at q2
          clear hit2 hbw2 e1 e2 u1 u2 HI hbw c1 c2
          go_wp2_with fail
          go_roundw
          case rel => exact ⟨p + n, n1, n2, rfl, rfl, by omega, by omega, by omega, HN⟩
          case measure => exact HM.out
      · obtain rfl : p = v.size := by omega
        have hnx : ∀ ty, (Instr.next (.pointer (some ⟨w9.heap.size, 0, none⟩)) true ty).run Tryz.prog wr = _ := fun ty => Lib.run_next_end_at wr w9.heap.size v v.size ty hit hp
        have hBr := HB9.out.below hbw HB9.out.lt
        have hCr : wr.cell? ⟨bc, 2, none⟩ = some (.int .i64 y) := (hbw.cell (World.block_lt_of_cell? w9 _ HC9.out)).trans HC9.out
        have hk9 := HK9.out
        have s39 : hasQ v 39 = decide (0 < n1) := u1.symm
        have s34 : hasQ v 34 = decide (0 < n2) := u2.symm
        clear HI u1 u2 tl
        by_cases z1 : 0 < n1
        · by_cases z2 : 0 < n2
          · have HST := Lib.hid (show styled v s k y = (s, k) by unfold styled; rw [s39, s34, decide_eq_true z1, decide_eq_true z2]; rfl)
            have g0 := hBr.cell 0
            have g12 := hBr.cell 12
            simp only [List.getElem?_toArray, List.getElem?_cons_zero, List.getElem?_cons_succ] at g0 g12
            have G0 := Lib.hid g0
            have G12 := Lib.hid g12
            have HF := Lib.hid ((hk9.mono (Nat.le_of_lt hbl)).trans (hbw.mono (Nat.le_trans (Nat.le_of_lt hbl) hk9.size)))
            clear s39 s34 g0 g12 hBr hCr hbw hk9
            go_wp2_with fail
            go_end0
            exact ⟨rfl, by rw [HST.out]; exact G0.out, by rw [HST.out]; exact G12.out, HF.out⟩
          · have HST := Lib.hid (show styled v s k y = (⟨(runE v false v.size 0 []).toArray⟩, 1) by unfold styled useS; rw [s39, s34, decide_eq_true z1, decide_eq_false z2]; rfl)
            clear s39 s34
            go_wp2_with fail
            refine (escape_text v false (by omega) _ (HT.out.below (hk9.trans (hbw.mono hk9.size)))).mono ?_
            rintro e2 w2 ⟨rfl, hb2⟩
            have HB2 := Lib.hid (hbw.trans (hb2.mono hbw.size))
            have hB2 := hBr.below hb2 hBr.lt
            have f0 := hB2.frozen 0
            have g0 := hB2.cell 0
            simp only [List.getElem?_toArray, List.getElem?_cons_zero] at g0
            obtain ⟨O, hO⟩ : ∃ O : ByteArray, O = ⟨(runE v false v.size 0 []).toArray⟩ := ⟨_, rfl⟩
            rw [← hO]
            have hS := hB2.set_ 0 (.string O)
            have f12 := hS.frozen 12
            have g12 := hS.cell 12
            simp at g12
            have hS2 := hS.set_ 12 (.int .i64 1)
            have z0 := hS2.cell 0
            have z12 := hS2.cell 12
            simp at z0 z12
            have Z0 := Lib.hid z0
            have Z12 := Lib.hid z12
            have HO := Lib.hid hO
            clear hS hS2 z0 z12 hO hb2 hB2
            have HBW := Lib.hid hbw
            have HK9 := Lib.hid hk9
            clear hbw hk9 hBr
            go_wp2_with fail
            go_end0
            refine ⟨rfl, ?_, ?_, ?_⟩
            · rw [HST.out, ← HO.out]
              exact Z0.out
            · rw [HST.out]
              exact Z12.out
            · exact (((HK9.out.mono (Nat.le_of_lt hbl)).trans (HB2.out.mono (Nat.le_trans (Nat.le_of_lt hbl) HK9.out.size))).setCell (p := ⟨bl, 0, none⟩) (Nat.le_refl _) _).setCell (p := ⟨bl, 12, none⟩) (Nat.le_refl _) _
        · by_cases z2 : 0 < n2
          · have HST := Lib.hid (show styled v s k y = (⟨(runE v true v.size 0 []).toArray⟩, 0) by unfold styled useS; rw [s39, s34, decide_eq_false z1, decide_eq_true z2]; rfl)
            clear s39 s34
            go_wp2_with fail
            refine (escape_text v true (by omega) _ (HT.out.below (hk9.trans (hbw.mono hk9.size)))).mono ?_
            rintro e2 w2 ⟨rfl, hb2⟩
            have HB2 := Lib.hid (hbw.trans (hb2.mono hbw.size))
            have hB2 := hBr.below hb2 hBr.lt
            have f0 := hB2.frozen 0
            have g0 := hB2.cell 0
            simp only [List.getElem?_toArray, List.getElem?_cons_zero] at g0
            obtain ⟨O, hO⟩ : ∃ O : ByteArray, O = ⟨(runE v true v.size 0 []).toArray⟩ := ⟨_, rfl⟩
            rw [← hO]
            have hS := hB2.set_ 0 (.string O)
            have f12 := hS.frozen 12
            have g12 := hS.cell 12
            simp at g12
            have hS2 := hS.set_ 12 (.int .i64 0)
            have z0 := hS2.cell 0
            have z12 := hS2.cell 12
            simp at z0 z12
            have Z0 := Lib.hid z0
            have Z12 := Lib.hid z12
            have HO := Lib.hid hO
            clear hS hS2 z0 z12 hO hb2 hB2
            have HBW := Lib.hid hbw
            have HK9 := Lib.hid hk9
            clear hbw hk9 hBr
            go_wp2_with fail
            go_end0
            refine ⟨rfl, ?_, ?_, ?_⟩
            · rw [HST.out, ← HO.out]
              exact Z0.out
            · rw [HST.out]
              exact Z12.out
            · exact (((HK9.out.mono (Nat.le_of_lt hbl)).trans (HB2.out.mono (Nat.le_trans (Nat.le_of_lt hbl) HK9.out.size))).setCell (p := ⟨bl, 0, none⟩) (Nat.le_refl _) _).setCell (p := ⟨bl, 12, none⟩) (Nat.le_refl _) _
          · obtain rfl | rfl : y = 0 ∨ y = 1 := by omega
            · have HST := Lib.hid (show styled v s k 0 = (⟨(runE v false v.size 0 []).toArray⟩, 1) by unfold styled useS; rw [s39, s34, decide_eq_false z1, decide_eq_false z2]; rfl)
              clear s39 s34
              go_wp2_with fail
              refine (escape_text v false (by omega) _ (HT.out.below (hk9.trans (hbw.mono hk9.size)))).mono ?_
              rintro e2 w2 ⟨rfl, hb2⟩
              have HB2 := Lib.hid (hbw.trans (hb2.mono hbw.size))
              have hB2 := hBr.below hb2 hBr.lt
              have f0 := hB2.frozen 0
              have g0 := hB2.cell 0
              simp only [List.getElem?_toArray, List.getElem?_cons_zero] at g0
              obtain ⟨O, hO⟩ : ∃ O : ByteArray, O = ⟨(runE v false v.size 0 []).toArray⟩ := ⟨_, rfl⟩
              rw [← hO]
              have hS := hB2.set_ 0 (.string O)
              have f12 := hS.frozen 12
              have g12 := hS.cell 12
              simp at g12
              have hS2 := hS.set_ 12 (.int .i64 1)
              have z0 := hS2.cell 0
              have z12 := hS2.cell 12
              simp at z0 z12
              have Z0 := Lib.hid z0
              have Z12 := Lib.hid z12
              have HO := Lib.hid hO
              clear hS hS2 z0 z12 hO hb2 hB2
              have HBW := Lib.hid hbw
              have HK9 := Lib.hid hk9
              clear hbw hk9 hBr
              go_wp2_with fail
              go_end0
              refine ⟨rfl, ?_, ?_, ?_⟩
              · rw [HST.out, ← HO.out]
                exact Z0.out
              · rw [HST.out]
                exact Z12.out
              · exact (((HK9.out.mono (Nat.le_of_lt hbl)).trans (HB2.out.mono (Nat.le_trans (Nat.le_of_lt hbl) HK9.out.size))).setCell (p := ⟨bl, 0, none⟩) (Nat.le_refl _) _).setCell (p := ⟨bl, 12, none⟩) (Nat.le_refl _) _
            · have HST := Lib.hid (show styled v s k 1 = (⟨(runE v true v.size 0 []).toArray⟩, 0) by unfold styled useS; rw [s39, s34, decide_eq_false z1, decide_eq_false z2]; rfl)
              clear s39 s34
              go_wp2_with fail
              refine (escape_text v true (by omega) _ (HT.out.below (hk9.trans (hbw.mono hk9.size)))).mono ?_
              rintro e2 w2 ⟨rfl, hb2⟩
              have HB2 := Lib.hid (hbw.trans (hb2.mono hbw.size))
              have hB2 := hBr.below hb2 hBr.lt
              have f0 := hB2.frozen 0
              have g0 := hB2.cell 0
              simp only [List.getElem?_toArray, List.getElem?_cons_zero] at g0
              obtain ⟨O, hO⟩ : ∃ O : ByteArray, O = ⟨(runE v true v.size 0 []).toArray⟩ := ⟨_, rfl⟩
              rw [← hO]
              have hS := hB2.set_ 0 (.string O)
              have f12 := hS.frozen 12
              have g12 := hS.cell 12
              simp at g12
              have hS2 := hS.set_ 12 (.int .i64 0)
              have z0 := hS2.cell 0
              have z12 := hS2.cell 12
              simp at z0 z12
              have Z0 := Lib.hid z0
              have Z12 := Lib.hid z12
              have HO := Lib.hid hO
              clear hS hS2 z0 z12 hO hb2 hB2
              have HBW := Lib.hid hbw
              have HK9 := Lib.hid hk9
              clear hbw hk9 hBr
              go_wp2_with fail
              go_end0
              refine ⟨rfl, ?_, ?_, ?_⟩
              · rw [HST.out, ← HO.out]
                exact Z0.out
              · rw [HST.out]
                exact Z12.out
              · exact (((HK9.out.mono (Nat.le_of_lt hbl)).trans (HB2.out.mono (Nat.le_trans (Nat.le_of_lt hbl) HK9.out.size))).setCell (p := ⟨bl, 0, none⟩) (Nat.le_refl _) _).setCell (p := ⟨bl, 12, none⟩) (Nat.le_refl _) _
end Go.Proofs.YtpgmnggicmbacaaGreatDoor
