/-
  The lexer's small functions: acceptN, locations, isSymbol, checkWhitespace, HasPrefix, errors.
-/
import Derived.Test.YtpgmnggicmbacaaDoorSyGb
import Derived.Test.YtpgmnggicmbacaaDoorSyGc
namespace Go.Proofs.YtpgmnggicmbacaaDoor
open Go.Shelf Go.RowKit
set_option linter.unusedVariables false
set_option linter.unusedSimpArgs false

/-- Nothing is answered. -/
def NoRes (e : Ending) : Prop := e = .returned (.tuple #[])
set_option maxRecDepth 100000 in
theorem isSym_any (r : Int) (w : World) : Calls Tryd.prog 80 #[.int .i32 r] w fun e w' => e = .returned (.bool ([33, 36, 58, 126, 43, 45, 38, 124, 94, 61, 60, 62, 42, 47, 37].contains r)) ∧ w = w' := by
  by_cases h : r = 33 ∨ r = 36 ∨ r = 58 ∨ r = 126 ∨ r = 43 ∨ r = 45 ∨ r = 38 ∨ r = 124 ∨ r = 94 ∨ r = 61 ∨ r = 60 ∨ r = 62 ∨ r = 42 ∨ r = 47 ∨ r = 37
  · rcases h with rfl | rfl | rfl | rfl | rfl | rfl | rfl | rfl | rfl | rfl | rfl | rfl | rfl | rfl | rfl
    all_goals
      go_enter Tryd.func80, Tryd.ntmps80
      go_wp2_with fail
      go_ret
      exact ⟨rfl, rfl⟩
  · have HF := Lib.hid (show [33, 36, 58, 126, 43, 45, 38, 124, 94, 61, 60, 62, 42, 47, 37].contains r = false by simp; omega)
    have q1 : (r == 33) = false := by simp; omega
    have q2 : (r == 36) = false := by simp; omega
    have q3 : (r == 58) = false := by simp; omega
    have q4 : (r == 126) = false := by simp; omega
    have q5 : (r == 43) = false := by simp; omega
    have q6 : (r == 45) = false := by simp; omega
    have q7 : (r == 38) = false := by simp; omega
    have q8 : (r == 124) = false := by simp; omega
    have q9 : (r == 94) = false := by simp; omega
    have q10 : (r == 61) = false := by simp; omega
    have q11 : (r == 60) = false := by simp; omega
    have q12 : (r == 62) = false := by simp; omega
    have q13 : (r == 42) = false := by simp; omega
    have q14 : (r == 47) = false := by simp; omega
    have q15 : (r == 37) = false := by simp; omega
    clear h
    go_enter Tryd.func80, Tryd.ntmps80
    go_wp2_with fail
    go_ret
    exact ⟨by rw [HF.out]; rfl, rfl⟩
theorem hasPre_in (s t : ByteArray) (_hs : s.size ≤ 1000000000) (ht : t.size ≤ 1000000000) (w : World) :
    Calls Tryd.prog 100 #[.string s, .string t] w fun e w' => e = .returned (.bool (decide (t.size ≤ s.size) && ((s.extract 0 t.size).toList == t.toList))) ∧ w = w' := by
  by_cases h : t.size ≤ s.size
  · have z0 : (t.size : Int) ≤ (s.size : Int) := by omega
    have z1 : (0 : Int) ≤ (t.size : Int) := by omega
    have HD := Lib.hid (show decide (t.size ≤ s.size) = true by simpa using h)
    go_enter Tryd.func100, Tryd.ntmps100
    go_wp2_with fail
    go_ret
    refine ⟨?_, rfl⟩
    first
      | (rw [HD.out]; rfl)
      | rfl
  · have z0 : ¬ (t.size : Int) ≤ (s.size : Int) := by omega
    have HD := Lib.hid (show decide (t.size ≤ s.size) = false by simpa using h)
    go_enter Tryd.func100, Tryd.ntmps100
    go_wp2_with fail
    go_ret
    refine ⟨?_, rfl⟩
    first
      | (rw [HD.out]; rfl)
      | rfl
theorem hasPre_any (s t : ByteArray) (hs : s.size ≤ 1000000000) (ht : t.size ≤ 1000000000) (w : World) :
    Calls Tryd.prog 75 #[.string s, .string t] w fun e w' => e = .returned (.bool (decide (t.size ≤ s.size) && ((s.extract 0 t.size).toList == t.toList))) ∧ w = w' := by
  have K := Lib.hid (hasPre_in s t hs ht w)
  generalize (decide (t.size ≤ s.size) && ((s.extract 0 t.size).toList == t.toList)) = v at *
  go_enter Tryd.func75, Tryd.ntmps75
  go_wp2_with fail
  refine K.out.mono ?_
  rintro e1 w1 ⟨rfl, rfl⟩
  go_wp2_with fail
  go_ret
  exact ⟨rfl, rfl⟩
/-- Of the rest of a text: a text stands at the place. -/
theorem pre_rest (s t : ByteArray) (i : Nat) (hi : i ≤ s.size) : (decide (t.size ≤ (s.extract i s.size).size) && (((s.extract i s.size).extract 0 t.size).toList == t.toList)) = stG s t i := by
  unfold stG
  have e1 : (s.extract i s.size).size = s.size - i := by rw [ByteArray.size_extract]; omega
  rw [e1]
  by_cases h : i + t.size ≤ s.size
  · have e2 : (s.extract i s.size).extract 0 t.size = s.extract i (i + t.size) := by
      rw [ByteArray.extract_extract]
      congr 1 <;> omega
    rw [e2, decide_eq_true (show t.size ≤ s.size - i by omega), decide_eq_true h]
  · rw [decide_eq_false (show ¬ t.size ≤ s.size - i by omega), decide_eq_false h]
    rfl
set_option maxRecDepth 100000 in
set_option maxHeartbeats 1600000 in
theorem acceptK (b : Nat) (s : ByteArray) (K : LK) (pos n : Nat) (hs : s.size ≤ 1000000) (hn : pos + n ≤ s.size) (ha : ∀ k, k < n → by_ s (pos + k) < 128) (w0 w : World) (h : WkI b s K w0 w pos) (hT : TabsAt b w0) (hbl : b < w0.heap.size) :
    Calls Tryd.prog 76 #[.pointer (some ⟨b, 0, none⟩), .int .i64 n] w (fun e w' => NoRes e ∧ WkI b s K w0 w' (pos + n)) := by
  have H := Lib.hid h
  have HT := Lib.hid hT
  have HA := Lib.hid ha
  clear h hT ha
  go_enter Tryd.func76, Tryd.ntmps76
  go_wp2_with fail
  go_loopw [4] (fun t wr => ∃ j : Nat, j ≤ n ∧ t = .int .i64 j ∧ Hid (WkI b s K w0 wr (pos + j))) (fun t _ => n - (intOf t).toNat)
  case atStart => exact ⟨0, Nat.zero_le _, rfl, H⟩
  case round =>
    obtain ⟨j, hj, rfl, HI⟩ := hrel
    by_cases hlt : j < n
    · have hx := (peek_by (s := s) (pos := pos + j) (by omega) (HA.out j hlt)).2
      have HX := Lib.hid hx
      clear hx
      go_wp2_with fail
      refine (HI.out.nextC hs (by omega) HT.out hbl).mono ?_
      rintro e1 w1 ⟨rfl, hi1⟩
      rw [HX.out] at hi1
      have HI1 := Lib.hid hi1
      clear hi1
      go_wp2_with fail
      go_roundw
      case rel => exact ⟨j + 1, by omega, by go_num, HI1⟩
      case measure => simp [intOf]; omega
    · obtain rfl : j = n := by omega
      go_wp2_with fail
      go_end0
      exact ⟨rfl, HI.out⟩
/-- The widths of white space that checkWhitespace tells. -/
def CwPost (a t : ByteArray) (w : World) (e : Ending) (w' : World) : Prop :=
  (∃ n : Nat, e = .returned (.int .i64 n) ∧ n ≤ a.size ∧ n ≤ t.size ∧ (∀ k, k < n → wsB (by_ a k) = true ∧ by_ t k = by_ a k) ∧
    ((n = a.size ∨ wsB (by_ a n) = false) ∨ n = 0 ∧ ∃ m, m < a.size ∧ (∀ k, k ≤ m → wsB (by_ a k) = true) ∧ (t.size ≤ m ∨ by_ t m ≠ by_ a m))) ∧ Below w.heap.size w w'
set_option maxRecDepth 100000 in
set_option maxHeartbeats 3200000 in
theorem checkWs_any (a t : ByteArray) (ha : a.size ≤ 1000000) (_ht : t.size ≤ 1000000) (w : World) : Calls Tryd.prog 77 #[.string a, .string t] w (CwPost a t w) := by
  go_enter Tryd.func77, Tryd.ntmps77
  go_wp2_with fail
  go_loopw [5] (fun u wr => ∃ j : Nat, j ≤ a.size ∧ u = .int .i64 j ∧ Hid (Below w.heap.size w wr) ∧ Hid (j ≤ t.size ∧ ∀ k, k < j → wsB (by_ a k) = true ∧ by_ t k = by_ a k)) (fun u _ => a.size - (intOf u).toNat)
  case atStart => exact ⟨0, Nat.zero_le _, rfl, Lib.hid (Below.refl _ _), Lib.hid ⟨Nat.zero_le _, fun k hk => absurd hk (by omega)⟩⟩
  case round =>
    obtain ⟨j, hj, rfl, HB, HI⟩ := hrel
    by_cases hlt : j < a.size
    · have hd := by_eq hlt
      by_cases hw : wsB (by_ a j) = true
      · have HW := Lib.hid hw
        have hc : ((a[j]'hlt).toNat : Int) = 32 ∨ ((a[j]'hlt).toNat : Int) = 9 := by
          rw [hd]
          unfold wsB at hw
          simp at hw
          omega
        by_cases hb : j < t.size
        · have hd2 := by_eq hb
          have hge : ¬ (t.size : Int) ≤ (j : Int) := by omega
          by_cases he : by_ t j = by_ a j
          · have q : (((a[j]'hlt).toNat : Int) != ((t[j]'hb).toNat : Int)) = false := by rw [hd, hd2, he]; simp
            have HN := Lib.hid (show j + 1 ≤ t.size ∧ ∀ k, k < j + 1 → wsB (by_ a k) = true ∧ by_ t k = by_ a k from ⟨hb, fun k hk => by
              rcases Nat.lt_or_ge k j with g | g
              · exact HI.out.2 k g
              · obtain rfl : k = j := by omega
                exact ⟨HW.out, he⟩⟩)
            clear hd hd2 he hw
            rcases hc with hc | hc
            all_goals
              go_wp2_with fail
              go_quiet ((fail))
              have HQ := Lib.hid (HB.out.trans ((below_drewB (Below.refl wr.heap.size wr) nq).mono HB.out.size))
              go_wp2_with fail
              go_roundw
              case rel => exact ⟨j + 1, by omega, by go_num, HQ, HN⟩
              case measure => simp [intOf]; omega
          · have q : (((a[j]'hlt).toNat : Int) != ((t[j]'hb).toNat : Int)) = true := by rw [hd, hd2]; simp; omega
            have HN := Lib.hid he
            clear hd hd2 he hw
            rcases hc with hc | hc
            all_goals
              go_wp2_with fail
              go_quiet ((fail))
              have HQ := Lib.hid (HB.out.trans ((below_drewB (Below.refl wr.heap.size wr) nq).mono HB.out.size))
              go_wp2_with fail
              go_ret
              exact ⟨⟨0, rfl, Nat.zero_le _, Nat.zero_le _, fun k hk => absurd hk (by omega), .inr ⟨rfl, j, hlt, fun k hk => (by
                rcases Nat.lt_or_ge k j with g | g
                · exact (HI.out.2 k g).1
                · obtain rfl : k = j := by omega
                  exact HW.out), .inr HN.out⟩⟩, HQ.out⟩
        · have hge : (t.size : Int) ≤ (j : Int) := by omega
          have hts := HI.out.1
          clear hd hw
          rcases hc with hc | hc
          all_goals
            go_wp2_with fail
            go_ret
            exact ⟨⟨0, rfl, Nat.zero_le _, Nat.zero_le _, fun k hk => absurd hk (by omega), .inr ⟨rfl, j, hlt, fun k hk => (by
              rcases Nat.lt_or_ge k j with g | g
              · exact (HI.out.2 k g).1
              · obtain rfl : k = j := by omega
                exact HW.out), .inl (by omega)⟩⟩, HB.out⟩
      · have hw' : wsB (by_ a j) = false := by simpa using hw
        have HW := Lib.hid hw'
        have hne : by_ a j ≠ 32 ∧ by_ a j ≠ 9 := by
          unfold wsB at hw'
          simpa using hw'
        have q1 : (((a[j]'hlt).toNat : Int) != 32) = true := by rw [hd]; simp; omega
        have q2 : (((a[j]'hlt).toNat : Int) != 9) = true := by rw [hd]; simp; omega
        clear hd hw hw' hne
        go_wp2_with fail
        go_ret
        exact ⟨⟨j, rfl, by omega, HI.out.1, HI.out.2, .inl (.inr HW.out)⟩, HB.out⟩
    · obtain rfl : j = a.size := by omega
      go_wp2_with fail
      go_ret
      exact ⟨⟨_, rfl, Nat.le_refl _, HI.out.1, HI.out.2, .inl (.inl rfl)⟩, HB.out⟩
end Go.Proofs.YtpgmnggicmbacaaDoor
