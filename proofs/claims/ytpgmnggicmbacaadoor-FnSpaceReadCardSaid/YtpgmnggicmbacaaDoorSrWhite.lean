/-
  lexWhitespace: it reads as spaceF says.
-/
import Derived.Test.YtpgmnggicmbacaaDoorSrNext
import Derived.Test.YtpgmnggicmbacaaDoorSrSpec
import Derived.Deep.DeepCutAuto
namespace Go.Proofs.YtpgmnggicmbacaaDoor
open Go.Shelf Go.RowKit

theorem peek_low {s : ByteArray} {pos : Nat} (h : pos < s.size) (hb : byteN s pos < 128) : peekR s pos = (byteN s pos : Int) ∧ (Utf8.decode s pos).2 = 1 := by
  have e : byteN s pos = (s[pos]'h).toNat := dif_pos h
  rw [e] at hb ⊢
  unfold peekR
  rw [if_pos h, decode_ascii s pos h hb]
  exact ⟨rfl, rfl⟩
theorem peek_high {s : ByteArray} {pos : Nat} (h : pos < s.size) (hb : 128 ≤ byteN s pos) : 128 ≤ peekR s pos := by
  have e : byteN s pos = (s[pos]'h).toNat := dif_pos h
  rw [e] at hb
  unfold peekR
  rw [if_pos h]
  have := (decode_high s pos h hb).1
  omega
theorem isW_low {n : Nat} : isW (n : Int) = (decide (n = 10) || decide (n = 32) || decide (n = 9) || decide (n = 13)) := by
  unfold isW
  rw [Bool.eq_iff_iff]
  simp
  omega
theorem isW_high {r : Int} (h : 128 ≤ r) : isW r = false := by
  unfold isW
  simp
  omega
/-- The tables of package utf8 stand below a block. -/
def TabsAt (B : Nat) (w : World) : Prop := ∃ w0 : World, Lib.Utf8Tabs 0 1 w0 ∧ w0.heap.size ≤ B ∧ Below w0.heap.size w0 w
theorem TabsAt.tabs {B : Nat} {w : World} (h : TabsAt B w) : Lib.Utf8Tabs 0 1 w := by
  obtain ⟨w0, h1, -, h3⟩ := h
  exact Utf8Tabs_below h1 h3
theorem TabsAt.below {B : Nat} {w w' : World} (h : TabsAt B w) (hb : Below B w w') : TabsAt B w' := by
  obtain ⟨w0, h1, h2, h3⟩ := h
  exact ⟨w0, h1, h2, h3.trans (hb.mono h2)⟩
theorem TabsAt.mono {B C : Nat} {w : World} (h : TabsAt B w) (hb : B ≤ C) : TabsAt C w := by
  obtain ⟨w0, h1, h2, h3⟩ := h
  exact ⟨w0, h1, Nat.le_trans h2 hb, h3⟩
theorem Lexer.lt {w : World} {b : Nat} {s : ByteArray} {pos : Nat} (h : Lexer w b s pos) : b < w.heap.size := by
  obtain ⟨_, _, _, _, _, _, _, _, _, _, _, hB, -⟩ := h
  exact hB.lt
theorem Lexer.below {w w' : World} {b : Nat} {s : ByteArray} {pos : Nat} (h : Lexer w b s pos) (hb : Below w.heap.size w w') : Lexer w' b s pos := by
  have hl := h.lt
  obtain ⟨f, g, src, fod, tok, ts, tl, tc, fr, ln, ls, hB, h1, h2⟩ := h
  exact ⟨f, g, src, fod, tok, ts, tl, tc, fr, ln, ls, hB.below hb hl, h1, h2⟩
def lexPos (b : Nat) (w : World) : Nat := match w.cell? ⟨b, 10, none⟩ with | some (.int _ n) => n.toNat | _ => 0
theorem Lexer.pos {w : World} {b : Nat} {s : ByteArray} {pos : Nat} (h : Lexer w b s pos) : lexPos b w = pos := by
  obtain ⟨f, g, src, fod, tok, ts, tl, tc, fr, ln, ls, hB, h1, h2⟩ := h
  have c := hB.cell 10
  simp only [cellsX, List.getElem?_toArray, List.getElem?_cons_zero, List.getElem?_cons_succ] at c
  unfold lexPos
  rw [c]
  rfl
/-- What lexWhitespace answers. -/
def WsPost (b : Nat) (s : ByteArray) (pos : Nat) (w : World) (e : Ending) (w' : World) : Prop :=
  ∃ l i t : Nat, e = .returned (.tuple #[.int .i64 l, .int .i64 i]) ∧ spaceF s (s.size - pos) pos 0 0 = (l, i, t) ∧ pos ≤ t ∧ t ≤ s.size ∧ Lexer w' b s t ∧ Below b w w'
/-- What stands at the head of a round. -/
def WsI (b : Nat) (s : ByteArray) (w wr : World) (pos : Nat) : Prop := Lexer wr b s pos ∧ Below b w wr
theorem space_out {s : ByteArray} {pos : Nat} (h : isW (peekR s pos) = false) (fuel l i : Nat) : spaceF s fuel pos l i = (l, i, pos) := by
  cases fuel with
  | zero => rfl
  | succ n =>
    rw [spaceF]
    split
    · rename_i hl
      by_cases hb : byteN s pos < 128
      · rw [(peek_low hl hb).1, isW_low] at h
        simp only [Bool.or_eq_false_iff, decide_eq_false_iff_not] at h
        rw [if_neg h.1.1.1, if_neg h.1.1.2, if_neg h.1.2, if_neg h.2]
      · rw [if_neg (by omega), if_neg (by omega), if_neg (by omega), if_neg (by omega)]
    · rfl
/-- White space is one byte. -/
theorem space_in {s : ByteArray} {pos : Nat} (h : isW (peekR s pos) = true) : pos < s.size ∧ nextP s pos = pos + 1 ∧ (peekR s pos = 10 ∧ byteN s pos = 10 ∨ peekR s pos = 32 ∧ byteN s pos = 32 ∨ peekR s pos = 9 ∧ byteN s pos = 9 ∨ peekR s pos = 13 ∧ byteN s pos = 13) := by
  by_cases hl : pos < s.size
  · by_cases hb : byteN s pos < 128
    · have h1 := (peek_low hl hb).1
      rw [h1, isW_low] at h
      simp only [Bool.or_eq_true, decide_eq_true_eq] at h
      refine ⟨hl, ?_, ?_⟩
      · unfold nextP
        rw [if_pos hl, (peek_low hl hb).2]
      · rw [h1]
        omega
    · rw [isW_high (peek_high hl (by omega))] at h
      cases h
  · unfold peekR at h
    rw [if_neg hl] at h
    exact absurd h (by decide)
set_option maxRecDepth 100000 in
set_option maxHeartbeats 3200000 in
theorem white_any (b : Nat) (s : ByteArray) (pos : Nat) (hs : s.size ≤ 1000000) (hp : pos ≤ s.size) (w : World) (h : Lexer w b s pos) (hT : TabsAt b w) :
    Calls Tryd.prog 31 #[.pointer (some ⟨b, 0, none⟩)] w (WsPost b s pos w) := by
  have hbl : b < w.heap.size := h.lt
  have H := Lib.hid h
  have HT := Lib.hid hT
  clear h hT
  go_enter Tryd.func31, Tryd.ntmps31
  go_wp2_with fail
  refine (peek_any b s pos _ H.out HT.out.tabs).mono ?_
  rintro e1 w1 ⟨rfl, hb1⟩
  have HI := Lib.hid (show WsI b s w w1 pos from ⟨H.out.below hb1, hb1.mono (Nat.le_of_lt hbl)⟩)
  clear hb1
  obtain ⟨rr, hrr⟩ : ∃ rr, rr = peekR s pos := ⟨_, rfl⟩
  rw [← hrr]
  have HR := Lib.hid hrr
  clear hrr
  go_wp2_with fail
  go_loopw [4, 5, 6] (fun r i l wr => ∃ (rv : Int) (p li ii fuel : Nat), r = .int .i32 rv ∧ i = .int .i64 ii ∧ l = .int .i64 li ∧ Hid (rv = peekR s p) ∧ Hid (WsI b s w wr p) ∧ Hid (spaceF s fuel p li ii = spaceF s (s.size - pos) pos 0 0) ∧ s.size ≤ p + fuel ∧ pos ≤ p ∧ p ≤ s.size ∧ li ≤ p ∧ ii ≤ 8 * p) (fun _ _ _ wr => s.size - lexPos b wr)
  case atStart => exact ⟨rr, pos, 0, 0, s.size - pos, rfl, rfl, rfl, HR, HI, Lib.hid rfl, by omega, by omega, by omega, by omega, by omega⟩
  case round =>
    clear HR HI
    obtain ⟨rv, p, li, ii, fuel, rfl, rfl, rfl, HR, HI, HS, h1, h2, h3, h4, h5⟩ := hrel
    rcases hw : isW rv with _ | _
    · have HW := Lib.hid hw
      clear hw
      go_wp2_with fail
      refine (isW_any rv _).mono ?_
      rintro e2 w2 ⟨rfl, rfl⟩
      rw [HW.out]
      go_wp2_with fail
      go_ret2
      have hr := HR.out
      have hw := HW.out
      subst hr
      have hs2 := HS.out
      rw [space_out hw] at hs2
      exact ⟨li, ii, p, rfl, hs2.symm, h2, h3, HI.out.1, HI.out.2⟩
    · have hr := HR.out
      have hin := space_in (s := s) (pos := p) (by rw [← hr]; exact hw)
      obtain ⟨hlt, hn, hc⟩ := hin
      rw [← hr] at hc
      have HN := Lib.hid hn
      obtain ⟨q, rfl⟩ : ∃ q, fuel = q + 1 := ⟨fuel - 1, by omega⟩
      clear hw hn hr
      rcases hc with ⟨hrv, hby⟩ | ⟨hrv, hby⟩ | ⟨hrv, hby⟩ | ⟨hrv, hby⟩
      all_goals
        have HB := Lib.hid hby
        clear hby
      · subst hrv
        go_wp2_with fail
        refine (isW_any _ _).mono ?_
        rintro e2 w2 ⟨rfl, rfl⟩
        rw [show isW 10 = true from rfl]
        go_wp2_with fail
        refine (next_any b s p hs (by omega) _ HI.out.1 (HT.out.below HI.out.2).tabs).mono ?_
        rintro e3 w3 ⟨rfl, hl3, hb3⟩
        have HI3 := Lib.hid (show WsI b s w w3 (p + 1) from ⟨HN.out ▸ hl3, HI.out.2.trans hb3⟩)
        clear hl3 hb3
        go_wp2_with fail
        refine (peek_any b s (p + 1) _ HI3.out.1 (HT.out.below HI3.out.2).tabs).mono ?_
        rintro e4 w4 ⟨rfl, hb4⟩
        have HI4 := Lib.hid (show WsI b s w w4 (p + 1) from ⟨HI3.out.1.below hb4, HI3.out.2.trans (hb4.mono (Nat.le_of_lt HI3.out.1.lt))⟩)
        clear hb4
        have HS4 := Lib.hid (show spaceF s q (p + 1) (li + 1) (0) = spaceF s (s.size - pos) pos 0 0 by
          have h6 := HS.out
          rw [spaceF, if_pos hlt, HB.out] at h6
          exact h6)
        have hm : s.size - lexPos b w4 < s.size - lexPos b wr := by rw [HI4.out.1.pos, HI.out.1.pos]; omega
        have HM := Lib.hid hm
        clear hm
        go_wp2_with fail
        go_roundw
        case rel => exact ⟨_, p + 1, li + 1, 0, q, rfl, by go_num, by go_num, Lib.hid rfl, HI4, HS4, by omega, by omega, by omega, by omega, by omega⟩
        case measure => exact HM.out
      · subst hrv
        go_wp2_with fail
        refine (isW_any _ _).mono ?_
        rintro e2 w2 ⟨rfl, rfl⟩
        rw [show isW 32 = true from rfl]
        go_wp2_with fail
        refine (next_any b s p hs (by omega) _ HI.out.1 (HT.out.below HI.out.2).tabs).mono ?_
        rintro e3 w3 ⟨rfl, hl3, hb3⟩
        have HI3 := Lib.hid (show WsI b s w w3 (p + 1) from ⟨HN.out ▸ hl3, HI.out.2.trans hb3⟩)
        clear hl3 hb3
        go_wp2_with fail
        refine (peek_any b s (p + 1) _ HI3.out.1 (HT.out.below HI3.out.2).tabs).mono ?_
        rintro e4 w4 ⟨rfl, hb4⟩
        have HI4 := Lib.hid (show WsI b s w w4 (p + 1) from ⟨HI3.out.1.below hb4, HI3.out.2.trans (hb4.mono (Nat.le_of_lt HI3.out.1.lt))⟩)
        clear hb4
        have HS4 := Lib.hid (show spaceF s q (p + 1) (li) (ii + 1) = spaceF s (s.size - pos) pos 0 0 by
          have h6 := HS.out
          rw [spaceF, if_pos hlt, HB.out] at h6
          exact h6)
        have hm : s.size - lexPos b w4 < s.size - lexPos b wr := by rw [HI4.out.1.pos, HI.out.1.pos]; omega
        have HM := Lib.hid hm
        clear hm
        go_wp2_with fail
        go_roundw
        case rel => exact ⟨_, p + 1, li, ii + 1, q, rfl, by go_num, by go_num, Lib.hid rfl, HI4, HS4, by omega, by omega, by omega, by omega, by omega⟩
        case measure => exact HM.out
      · subst hrv
        go_wp2_with fail
        refine (isW_any _ _).mono ?_
        rintro e2 w2 ⟨rfl, rfl⟩
        rw [show isW 9 = true from rfl]
        go_wp2_with fail
        refine (next_any b s p hs (by omega) _ HI.out.1 (HT.out.below HI.out.2).tabs).mono ?_
        rintro e3 w3 ⟨rfl, hl3, hb3⟩
        have HI3 := Lib.hid (show WsI b s w w3 (p + 1) from ⟨HN.out ▸ hl3, HI.out.2.trans hb3⟩)
        clear hl3 hb3
        go_wp2_with fail
        refine (peek_any b s (p + 1) _ HI3.out.1 (HT.out.below HI3.out.2).tabs).mono ?_
        rintro e4 w4 ⟨rfl, hb4⟩
        have HI4 := Lib.hid (show WsI b s w w4 (p + 1) from ⟨HI3.out.1.below hb4, HI3.out.2.trans (hb4.mono (Nat.le_of_lt HI3.out.1.lt))⟩)
        clear hb4
        have HS4 := Lib.hid (show spaceF s q (p + 1) (li) (ii + 8) = spaceF s (s.size - pos) pos 0 0 by
          have h6 := HS.out
          rw [spaceF, if_pos hlt, HB.out] at h6
          exact h6)
        have hm : s.size - lexPos b w4 < s.size - lexPos b wr := by rw [HI4.out.1.pos, HI.out.1.pos]; omega
        have HM := Lib.hid hm
        clear hm
        go_wp2_with fail
        go_roundw
        case rel => exact ⟨_, p + 1, li, ii + 8, q, rfl, by go_num, by go_num, Lib.hid rfl, HI4, HS4, by omega, by omega, by omega, by omega, by omega⟩
        case measure => exact HM.out
      · subst hrv
        go_wp2_with fail
        refine (isW_any _ _).mono ?_
        rintro e2 w2 ⟨rfl, rfl⟩
        rw [show isW 13 = true from rfl]
        go_wp2_with fail
        refine (next_any b s p hs (by omega) _ HI.out.1 (HT.out.below HI.out.2).tabs).mono ?_
        rintro e3 w3 ⟨rfl, hl3, hb3⟩
        have HI3 := Lib.hid (show WsI b s w w3 (p + 1) from ⟨HN.out ▸ hl3, HI.out.2.trans hb3⟩)
        clear hl3 hb3
        go_wp2_with fail
        refine (peek_any b s (p + 1) _ HI3.out.1 (HT.out.below HI3.out.2).tabs).mono ?_
        rintro e4 w4 ⟨rfl, hb4⟩
        have HI4 := Lib.hid (show WsI b s w w4 (p + 1) from ⟨HI3.out.1.below hb4, HI3.out.2.trans (hb4.mono (Nat.le_of_lt HI3.out.1.lt))⟩)
        clear hb4
        have HS4 := Lib.hid (show spaceF s q (p + 1) (li) (ii) = spaceF s (s.size - pos) pos 0 0 by
          have h6 := HS.out
          rw [spaceF, if_pos hlt, HB.out] at h6
          exact h6)
        have hm : s.size - lexPos b w4 < s.size - lexPos b wr := by rw [HI4.out.1.pos, HI.out.1.pos]; omega
        have HM := Lib.hid hm
        clear hm
        go_wp2_with fail
        go_roundw
        case rel => exact ⟨_, p + 1, li, ii, q, rfl, by go_num, by go_num, Lib.hid rfl, HI4, HS4, by omega, by omega, by omega, by omega, by omega⟩
        case measure => exact HM.out
end Go.Proofs.YtpgmnggicmbacaaDoor
