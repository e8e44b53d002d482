/-
  Identifier: its answer hangs on the text alone.
-/
import Derived.Test.YtdhhdnopilfifaaPrPt
import Derived.Test.YtdhhdnopilfifaaLater
namespace Go.Proofs.Ytdhhdnopilfifaa
open Go.RowKit

def IfB (P : Prop) (w : World) (e : Ending) (w' : World) : Prop := (∃ b : Bool, e = .returned (.bool b) ∧ (b = true ↔ P)) ∧ Below w.heap.size w w'
theorem IfB.yes {P : Prop} {w w' : World} {v : Value} (hv : v = .bool true) (h : P) (hb : Below w.heap.size w w') : IfB P w (.returned v) w' := ⟨⟨true, by rw [hv], ⟨fun _ => h, fun _ => rfl⟩⟩, hb⟩
theorem IfB.no {P : Prop} {w w' : World} {v : Value} (hv : v = .bool false) (h : ¬ P) (hb : Below w.heap.size w w') : IfB P w (.returned v) w' := ⟨⟨false, by rw [hv], ⟨fun g => Bool.noConfusion g, fun g => absurd g h⟩⟩, hb⟩
def DigitP (c : Int) : Prop := 48 ≤ c ∧ c ≤ 57
def LetterP (c : Int) : Prop := (97 ≤ c ∧ c ≤ 122) ∨ (65 ≤ c ∧ c ≤ 90) ∨ c = 95
theorem digit_if (c : Int) (w : World) : Calls Try.prog 34 #[.int .u8 c] w (IfB (DigitP c) w) := by
  by_cases h1 : 48 ≤ c <;> by_cases h2 : c ≤ 57
  · have HP := Lib.hid (show DigitP c from ⟨h1, h2⟩)
    go_enter Try.func34, Try.ntmps34
    go_wp2
    go_ret
    exact IfB.yes rfl HP.out (Below.refl _ _)
  all_goals
    have HP := Lib.hid (show ¬ DigitP c by unfold DigitP; omega)
    go_enter Try.func34, Try.ntmps34
    go_wp2
    go_ret
    exact IfB.no rfl HP.out (Below.refl _ _)
theorem letter_if (c : Int) (w : World) : Calls Try.prog 48 #[.int .u8 c] w (IfB (LetterP c) w) := by
  by_cases h1 : 97 ≤ c <;> by_cases h2 : c ≤ 122 <;> by_cases h3 : 65 ≤ c <;> by_cases h4 : c ≤ 90 <;> by_cases h5 : c = 95
  all_goals first
    | (exfalso; omega)
    | skip
  all_goals
    have q5 : (c == 95) = decide (c = 95) := by by_cases h : c = 95 <;> simp [h]
    by_cases hp : LetterP c
    · have HP := Lib.hid hp
      first
        | (exfalso; unfold LetterP at hp; omega)
        | (first
            | rw [decide_eq_true h5] at q5
            | rw [decide_eq_false h5] at q5
           clear hp h5
           go_enter Try.func48, Try.ntmps48
           go_wp2
           go_ret
           exact IfB.yes rfl HP.out (Below.refl _ _))
    · have HP := Lib.hid hp
      first
        | (exfalso; unfold LetterP at hp; omega)
        | (first
            | rw [decide_eq_true h5] at q5
            | rw [decide_eq_false h5] at q5
           clear hp h5
           go_enter Try.func48, Try.ntmps48
           go_wp2
           go_ret
           exact IfB.no rfl HP.out (Below.refl _ _))
def WordP (s : ByteArray) : Prop := 0 < s.size ∧ LetterP (by_ s 0) ∧ ∀ j, 1 ≤ j → j < s.size → LetterP (by_ s j) ∨ DigitP (by_ s j)
theorem Word_if (s : ByteArray) (hs : s.size ≤ maxLen) (w : World) : Calls Try.prog 36 #[.string s] w (IfB (WordP s) w) := by
  unfold maxLen at hs
  by_cases h0 : s.size = 0
  · have he := empty_is h0
    have HP := Lib.hid (show ¬ WordP s from fun h => by have := h.1; omega)
    go_enter Try.func36, Try.ntmps36
    go_wp2
    go_ret
    exact IfB.no rfl HP.out (Below.refl _ _)
  · have he := empty_not h0
    have hp : 0 < s.size := by omega
    go_enter Try.func36, Try.ntmps36
    go_wp2_with fail
    rw [by_eq hp]
    refine (letter_if _ w).mono ?_
    rintro e1 w1 ⟨⟨b, rfl, hbl⟩, hb1⟩
    have HB1 := Lib.hid hb1
    have HL := Lib.hid hbl
    clear hb1 hbl
    cases b
    · have HP := Lib.hid (show ¬ WordP s from fun h => Bool.noConfusion (HL.out.2 h.2.1))
      go_wp2_with fail
      go_ret
      exact IfB.no rfl HP.out HB1.out
    · have HL1 := Lib.hid (HL.out.1 rfl)
      go_wp2_with fail
      go_loopw [3] (fun t wr => ∃ k : Nat, 1 ≤ k ∧ k ≤ s.size ∧ t = .int .i64 k ∧ Hid (∀ j, 1 ≤ j → j < k → LetterP (by_ s j) ∨ DigitP (by_ s j)) ∧ Hid (Below w.heap.size w wr)) (fun t _ => s.size - (intOf t).toNat)
      case atStart => exact ⟨1, Nat.le_refl _, by omega, rfl, Lib.hid (fun j h1 h2 => by omega), HB1⟩
      case round =>
        obtain ⟨k, hk1, hk, rfl, HI, HB⟩ := hrel
        have next : Hid (k < s.size → (LetterP (by_ s k) ∨ DigitP (by_ s k)) → ∀ j, 1 ≤ j → j < k + 1 → LetterP (by_ s j) ∨ DigitP (by_ s j)) := Lib.hid (fun _ hx j h1 h2 => by
          rcases Nat.lt_or_ge j k with g | g
          · exact HI.out j h1 g
          · obtain rfl : j = k := by omega
            exact hx)
        by_cases hlt : k < s.size
        · have HLT := Lib.hid hlt
          go_wp2_with fail
          rw [by_eq hlt]
          refine (letter_if _ wr).mono ?_
          rintro e2 w2 ⟨⟨b2, rfl, hbl2⟩, hb2⟩
          have HB2 := Lib.hid (HB.out.trans (hb2.mono HB.out.size))
          have HL2 := Lib.hid hbl2
          clear hb2 hbl2
          cases b2
          · go_wp2_with fail
            first
              | rw [by_eq hlt]
              | skip
            refine (digit_if _ w2).mono ?_
            rintro e3 w3 ⟨⟨b3, rfl, hbl3⟩, hb3⟩
            have HB3 := Lib.hid (HB2.out.trans (hb3.mono HB2.out.size))
            have HL3 := Lib.hid hbl3
            clear hb3 hbl3
            cases b3
            · have HP := Lib.hid (show ¬ WordP s from fun h => by
                rcases h.2.2 k hk1 HLT.out with g | g
                · exact Bool.noConfusion (HL2.out.2 g)
                · exact Bool.noConfusion (HL3.out.2 g))
              go_wp2_with fail
              go_ret
              exact IfB.no rfl HP.out HB3.out
            · have HN := Lib.hid (next.out HLT.out (.inr (HL3.out.1 rfl)))
              go_wp2_with fail
              go_roundw
              case rel => exact ⟨k + 1, by omega, by omega, by go_num, HN, HB3⟩
              case measure => simp [intOf]; omega
          · have HN := Lib.hid (next.out HLT.out (.inl (HL2.out.1 rfl)))
            go_wp2_with fail
            go_roundw
            case rel => exact ⟨k + 1, by omega, by omega, by go_num, HN, HB2⟩
            case measure => simp [intOf]; omega
        · obtain rfl : k = s.size := by omega
          have HP := Lib.hid (show WordP s from ⟨hp, HL1.out, HI.out⟩)
          go_wp2_with fail
          go_ret
          exact IfB.yes rfl HP.out HB.out
def KeyP (s : ByteArray) : Prop := ∃ k x, k < 18 ∧ kws[k]? = some (.string x) ∧ (x.toList == s.toList) = true
theorem Keyword_if (s : ByteArray) (w : World) : Calls Try.prog 37 #[.string s] w (IfB (KeyP s) w) := by
  have hB : Blk (w.alloc (.cells kws 9)) w.heap.size 9 kws := Blk.new w _ _
  have HB0 := Lib.hid (show Below w.heap.size w (w.alloc (.cells kws 9)) from belowS_alloc (Below.refl _ _) _)
  have HB := Lib.hid hB
  clear hB
  go_enter Try.func37, Try.ntmps37
  go_wp2_with fail
  have hW : w.alloc (.cells kws 9) = w.alloc (.cells kws 9) := rfl
  unfold kws at hW
  generalize hW1 : w.alloc (.cells kws 9) = W1 at *
  unfold kws at hW1
  rw [hW1]
  clear hW hW1
  go_loopw [4] (fun t wr => ∃ k : Nat, k ≤ 18 ∧ t = .int .i64 k ∧ wr = W1 ∧ Hid (∀ j x, j < k → kws[j]? = some (.string x) → (x.toList == s.toList) = false)) (fun t _ => 18 - (intOf t).toNat)
  case atStart => exact ⟨0, by omega, rfl, by first | rfl | trivial, Lib.hid (fun j x h => by omega)⟩
  case round =>
    obtain ⟨k, hk, rfl, rfl, HI⟩ := hrel
    by_cases hlt : k < 18
    · obtain ⟨x, hx⟩ := kws_at k hlt
      have hc := (HB.out.cell k).trans hx
      have HX := Lib.hid hx
      clear hx
      have hkz : (k : Int) < 18 := by omega
      cases hq : (x.toList == s.toList)
      · have HN : Hid (∀ j y, j < k + 1 → kws[j]? = some (.string y) → (y.toList == s.toList) = false) := Lib.hid (fun j y h1 h2 => by
          rcases Nat.lt_or_ge j k with g | g
          · exact HI.out j y g h2
          · obtain rfl : j = k := by omega
            have := HX.out.symm.trans h2
            cases this
            exact hq)
        go_wp2_with fail
        go_roundw
        case rel => exact ⟨k + 1, by omega, by go_num, by trivial, HN⟩
        case measure => simp [intOf]; omega
      · have HP := Lib.hid (show KeyP s from ⟨k, x, hlt, HX.out, hq⟩)
        go_wp2_with fail
        go_ret
        exact IfB.yes rfl HP.out HB0.out
    · obtain rfl : k = 18 := by omega
      have HP := Lib.hid (show ¬ KeyP s from fun ⟨j, x, h1, h2, h3⟩ => by have := HI.out j x h1 h2; rw [h3] at this; cases this)
      go_wp2_with fail
      go_ret
      exact IfB.no rfl HP.out HB0.out
open Classical in
/-- What Identifier answers. -/
noncomputable def identB (s : ByteArray) : Bool := decide (WordP s ∧ ¬ KeyP s)
open Classical in
theorem Identifier_sure (s : ByteArray) (hs : s.size ≤ maxLen) (w : World) : Calls Try.prog 26 #[.string s] w (fun e w' => e = .returned (.bool (identB s)) ∧ Below w.heap.size w w') := by
  have fin : ∀ (b : Bool) (e : Ending) (w' : World), (b = true ↔ WordP s ∧ ¬ KeyP s) → e = .returned (.bool b) ∧ Below w.heap.size w w' → e = .returned (.bool (identB s)) ∧ Below w.heap.size w w' := by
    intro b e w' h1 h2
    have : b = identB s := by
      unfold identB
      cases b
      · exact (decide_eq_false (fun g => Bool.noConfusion (h1.2 g))).symm
      · exact (decide_eq_true (h1.1 rfl)).symm
    rw [← this]
    exact h2
  have F := Lib.hid fin
  clear fin
  have main : Calls Try.prog 26 #[.string s] w (IfB (WordP s ∧ ¬ KeyP s) w) := by
    go_enter Try.func26, Try.ntmps26
    go_wp2_with fail
    refine (Word_if s hs w).mono ?_
    rintro e1 w1 ⟨⟨b, rfl, hbl⟩, hb1⟩
    have HB1 := Lib.hid hb1
    have HL := Lib.hid hbl
    clear hb1 hbl
    cases b
    · have HP := Lib.hid (show ¬ (WordP s ∧ ¬ KeyP s) from fun h => Bool.noConfusion (HL.out.2 h.1))
      go_wp2_with fail
      go_ret
      exact IfB.no rfl HP.out HB1.out
    · go_wp2_with fail
      refine (Keyword_if s w1).mono ?_
      rintro e2 w2 ⟨⟨b2, rfl, hbl2⟩, hb2⟩
      have HB2 := Lib.hid (HB1.out.trans (hb2.mono HB1.out.size))
      have HL2 := Lib.hid hbl2
      clear hb2 hbl2
      cases b2
      · have HP := Lib.hid (show WordP s ∧ ¬ KeyP s from ⟨HL.out.1 (by trivial), fun h => Bool.noConfusion (HL2.out.2 h)⟩)
        go_wp2_with fail
        go_ret
        exact IfB.yes rfl HP.out HB2.out
      · have HP := Lib.hid (show ¬ (WordP s ∧ ¬ KeyP s) from fun h => h.2 (HL2.out.1 (by trivial)))
        go_wp2_with fail
        go_ret
        exact IfB.no rfl HP.out HB2.out
  refine main.mono ?_
  rintro e w' ⟨⟨b, h1, h2⟩, h3⟩
  exact F.out b e w' h2 ⟨h1, h3⟩
end Go.Proofs.Ytdhhdnopilfifaa
