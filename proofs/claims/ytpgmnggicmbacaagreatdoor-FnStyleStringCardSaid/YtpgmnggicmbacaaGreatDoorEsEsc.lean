/-
  parser.StringEscape: it writes what runE says.
-/
import Derived.Test.YtpgmnggicmbacaaGreatDoorEsInt
namespace Go.Proofs.YtpgmnggicmbacaaGreatDoor
open Go.Shelf Go.RowKit

def PePost (s : ByteArray) (single : Bool) (w : World) (e : Ending) (w' : World) : Prop := e = .returned (.string ⟨(runE s single s.size 0 []).toArray⟩) ∧ Below w.heap.size w w'
theorem enc_le2 (r : Int) : (Lib.encodeRune r).length ≤ 4 := by
  rw [← Lib.runeCells_length]
  exact (Lib.runeCells_le r).2
theorem enc_ascii {r : Nat} (h : r < 128) : Lib.encodeRune (r : Nat) = [UInt8.ofNat r] := by
  unfold Lib.encodeRune
  rw [Lib.encodeRuneZ_one (by omega) (by omega)]
  rfl
theorem escB_le (single : Bool) (r : Nat) : (escB single r).length ≤ 6 := by
  unfold escB
  have := enc_le2 (r : Int)
  repeat' split
  all_goals first | (simp; done) | omega
theorem tail_hex (a b : UInt8) : ((⟨#[49, 48, 48, a, b]⟩ : ByteArray).extract 1 5).data.toList = [48, 48, a, b] := by
  have : ((⟨#[49, 48, 48, a, b]⟩ : ByteArray).extract 1 5).data = (#[49, 48, 48, a, b] : Array UInt8).extract 1 5 := by simp [ByteArray.data_extract]
  rw [this]
  rfl
theorem escB_hex (single : Bool) (r : Nat) (h : ¬ (r = 34 ∨ r = 39 ∨ r = 92 ∨ r = 8 ∨ r = 12 ∨ r = 10 ∨ r = 13 ∨ r = 9 ∨ r = 0)) (h1 : r < 32 ∨ (127 ≤ r ∧ r ≤ 159)) : escB single r = [92, 117, 48, 48, hexD (r / 16), hexD (r % 16)] := by
  simp only [not_or] at h
  obtain ⟨a, b, c, d, e, f, g, i, j⟩ := h
  unfold escB
  rw [if_neg a, if_neg b, if_neg c, if_neg d, if_neg e, if_neg f, if_neg g, if_neg i, if_neg j, if_pos h1]
theorem escB_plain (single : Bool) (r : Nat) (h : ¬ (r = 34 ∨ r = 39 ∨ r = 92 ∨ r = 8 ∨ r = 12 ∨ r = 10 ∨ r = 13 ∨ r = 9 ∨ r = 0)) (h1 : ¬ (r < 32 ∨ (127 ≤ r ∧ r ≤ 159))) : escB single r = Lib.encodeRune (r : Nat) := by
  simp only [not_or] at h
  obtain ⟨a, b, c, d, e, f, g, i, j⟩ := h
  unfold escB
  rw [if_neg a, if_neg b, if_neg c, if_neg d, if_neg e, if_neg f, if_neg g, if_neg i, if_neg j, if_neg h1]
set_option maxRecDepth 100000 in
set_option maxHeartbeats 6400000 in
theorem escape_text (s : ByteArray) (single : Bool) (hs : s.size ≤ 100000000) (w : World) (hT : Tabs3 w) :
    Calls Tryz.prog 24 #[.string s, .bool single] w (PePost s single w) := by
  have HT := Lib.hid hT
  clear hT
  go_enter Tryz.func24, Tryz.ntmps24
  go_wp2_with fail
  go_loopw [6] (fun t wr => ∃ (i fuel : Nat) (l : List UInt8), t = .int .i64 i ∧ Hid (runE s single fuel i l = runE s single s.size 0 []) ∧ Hid (Buf w wr l) ∧ s.size ≤ i + fuel ∧ i ≤ s.size + 4 ∧ l.length ≤ 6 * i) (fun t _ => s.size - (intOf t).toNat)
  case atStart => exact ⟨0, s.size, [], rfl, Lib.hid rfl, Lib.hid (Buf.start w), by omega, by omega, by simp⟩
  case round =>
    obtain ⟨i, fuel, l, rfl, HR, HB, h1, h2, h3⟩ := hrel
    by_cases hlt : i < s.size
    · obtain ⟨f, rfl⟩ : ∃ f, fuel = f + 1 := ⟨fuel - 1, by omega⟩
      have hwl := width_le s i
      have hwp := width_pos s i hlt
      have hdl := decode_le s i
      go_wp2_with fail
      refine (dec_at s i hlt w wr l HB.out HT.out).mono ?_
      rintro e1 w1 ⟨rfl, hb1⟩
      have HB1 := Lib.hid hb1
      clear hb1 HB
      generalize hrn : (Utf8.decode s i).1 = rn at *
      generalize hwd : (Utf8.decode s i).2 = wd at *
      have hel := escB_le single rn
      have HS := Lib.hid (show runE s single f (i + wd) (l ++ escB single rn) = runE s single s.size 0 [] by
        rw [← HR.out]
        conv => rhs; rw [runE, if_pos hlt, hrn, hwd])
      clear hrn hwd HR
      by_cases c0 : rn = 34 ∨ rn = 39 ∨ rn = 92 ∨ rn = 8 ∨ rn = 12 ∨ rn = 10 ∨ rn = 13 ∨ rn = 9 ∨ rn = 0
      · rcases c0 with rfl | rfl | rfl | rfl | rfl | rfl | rfl | rfl | rfl
        · cases single
          · have HS2 := Lib.hid (show runE s false f (i + wd) (l ++ Lib.encodeRune 92 ++ Lib.encodeRune 34) = runE s false s.size 0 [] by rw [← HS.out, List.append_assoc]; rfl)
            have hel2 := Lib.hid (show (l ++ Lib.encodeRune 92 ++ Lib.encodeRune 34).length ≤ 6 * (i + wd) by rw [List.append_assoc, List.length_append]; simp only [List.length_append] at hel ⊢; have : (Lib.encodeRune 92 ++ Lib.encodeRune 34).length = 2 := rfl; simp only [List.length_append] at this; omega)
            clear HS hel
            go_wp2_with fail
            refine (put_rune w w1 l 92 HB1.out (by omega) (by omega) (by omega)).mono ?_
            rintro e2 w2 ⟨⟨n2, rfl⟩, hb2⟩
            have HB2 := Lib.hid hb2
            clear hb2
            go_wp2_with fail
            refine (put_rune w w2 _ 34 HB2.out (by omega) (by omega) (by rw [List.length_append]; have : (Lib.encodeRune 92).length = 1 := rfl; omega)).mono ?_
            rintro e3 w3 ⟨⟨n3, rfl⟩, hb3⟩
            have HB3 := Lib.hid hb3
            clear hb3
            go_wp2_with fail
            go_roundw
            case rel => exact ⟨i + wd, f, _, by go_num, HS2, HB3, by omega, by omega, hel2.out⟩
            case measure => simp [intOf]; omega
          · have HS2 := Lib.hid (show runE s true f (i + wd) (l ++ Lib.encodeRune 34) = runE s true s.size 0 [] by rw [← HS.out]; rfl)
            have hel2 := Lib.hid (show (l ++ Lib.encodeRune 34).length ≤ 6 * (i + wd) by rw [List.length_append]; have : (Lib.encodeRune 34).length = 1 := rfl; omega)
            clear HS hel
            go_wp2_with fail
            refine (put_rune w w1 l 34 HB1.out (by omega) (by omega) (by omega)).mono ?_
            rintro e2 w2 ⟨⟨n2, rfl⟩, hb2⟩
            have HB2 := Lib.hid hb2
            clear hb2
            go_wp2_with fail
            go_roundw
            case rel => exact ⟨i + wd, f, _, by go_num, HS2, HB2, by omega, by omega, hel2.out⟩
            case measure => simp [intOf]; omega
        · cases single
          · have HS2 := Lib.hid (show runE s false f (i + wd) (l ++ Lib.encodeRune 39) = runE s false s.size 0 [] by rw [← HS.out]; rfl)
            have hel2 := Lib.hid (show (l ++ Lib.encodeRune 39).length ≤ 6 * (i + wd) by rw [List.length_append]; have : (Lib.encodeRune 39).length = 1 := rfl; omega)
            clear HS hel
            go_wp2_with fail
            refine (put_rune w w1 l 39 HB1.out (by omega) (by omega) (by omega)).mono ?_
            rintro e2 w2 ⟨⟨n2, rfl⟩, hb2⟩
            have HB2 := Lib.hid hb2
            clear hb2
            go_wp2_with fail
            go_roundw
            case rel => exact ⟨i + wd, f, _, by go_num, HS2, HB2, by omega, by omega, hel2.out⟩
            case measure => simp [intOf]; omega
          · have HS2 := Lib.hid (show runE s true f (i + wd) (l ++ Lib.encodeRune 92 ++ Lib.encodeRune 39) = runE s true s.size 0 [] by rw [← HS.out, List.append_assoc]; rfl)
            have hel2 := Lib.hid (show (l ++ Lib.encodeRune 92 ++ Lib.encodeRune 39).length ≤ 6 * (i + wd) by rw [List.append_assoc, List.length_append]; simp only [List.length_append] at hel ⊢; have : (Lib.encodeRune 92 ++ Lib.encodeRune 39).length = 2 := rfl; simp only [List.length_append] at this; omega)
            clear HS hel
            go_wp2_with fail
            refine (put_rune w w1 l 92 HB1.out (by omega) (by omega) (by omega)).mono ?_
            rintro e2 w2 ⟨⟨n2, rfl⟩, hb2⟩
            have HB2 := Lib.hid hb2
            clear hb2
            go_wp2_with fail
            refine (put_rune w w2 _ 39 HB2.out (by omega) (by omega) (by rw [List.length_append]; have : (Lib.encodeRune 92).length = 1 := rfl; omega)).mono ?_
            rintro e3 w3 ⟨⟨n3, rfl⟩, hb3⟩
            have HB3 := Lib.hid hb3
            clear hb3
            go_wp2_with fail
            go_roundw
            case rel => exact ⟨i + wd, f, _, by go_num, HS2, HB3, by omega, by omega, hel2.out⟩
            case measure => simp [intOf]; omega
        · have HS2 := Lib.hid (show runE s single f (i + wd) (l ++ Lib.encodeRune 92 ++ Lib.encodeRune 92) = runE s single s.size 0 [] by rw [← HS.out, List.append_assoc]; rfl)
          have hel2 := Lib.hid (show (l ++ Lib.encodeRune 92 ++ Lib.encodeRune 92).length ≤ 6 * (i + wd) by rw [List.append_assoc, List.length_append]; simp only [List.length_append] at hel ⊢; have : (Lib.encodeRune 92 ++ Lib.encodeRune 92).length = 2 := rfl; simp only [List.length_append] at this; omega)
          clear HS hel
          go_wp2_with fail
          refine (put_rune w w1 l 92 HB1.out (by omega) (by omega) (by omega)).mono ?_
          rintro e2 w2 ⟨⟨n2, rfl⟩, hb2⟩
          have HB2 := Lib.hid hb2
          clear hb2
          go_wp2_with fail
          refine (put_rune w w2 _ 92 HB2.out (by omega) (by omega) (by rw [List.length_append]; have : (Lib.encodeRune 92).length = 1 := rfl; omega)).mono ?_
          rintro e3 w3 ⟨⟨n3, rfl⟩, hb3⟩
          have HB3 := Lib.hid hb3
          clear hb3
          go_wp2_with fail
          go_roundw
          case rel => exact ⟨i + wd, f, _, by go_num, HS2, HB3, by omega, by omega, hel2.out⟩
          case measure => simp [intOf]; omega
        · have HS2 := Lib.hid (show runE s single f (i + wd) (l ++ Lib.encodeRune 92 ++ Lib.encodeRune 98) = runE s single s.size 0 [] by rw [← HS.out, List.append_assoc]; rfl)
          have hel2 := Lib.hid (show (l ++ Lib.encodeRune 92 ++ Lib.encodeRune 98).length ≤ 6 * (i + wd) by rw [List.append_assoc, List.length_append]; simp only [List.length_append] at hel ⊢; have : (Lib.encodeRune 92 ++ Lib.encodeRune 98).length = 2 := rfl; simp only [List.length_append] at this; omega)
          clear HS hel
          go_wp2_with fail
          refine (put_rune w w1 l 92 HB1.out (by omega) (by omega) (by omega)).mono ?_
          rintro e2 w2 ⟨⟨n2, rfl⟩, hb2⟩
          have HB2 := Lib.hid hb2
          clear hb2
          go_wp2_with fail
          refine (put_rune w w2 _ 98 HB2.out (by omega) (by omega) (by rw [List.length_append]; have : (Lib.encodeRune 92).length = 1 := rfl; omega)).mono ?_
          rintro e3 w3 ⟨⟨n3, rfl⟩, hb3⟩
          have HB3 := Lib.hid hb3
          clear hb3
          go_wp2_with fail
          go_roundw
          case rel => exact ⟨i + wd, f, _, by go_num, HS2, HB3, by omega, by omega, hel2.out⟩
          case measure => simp [intOf]; omega
        · have HS2 := Lib.hid (show runE s single f (i + wd) (l ++ Lib.encodeRune 92 ++ Lib.encodeRune 102) = runE s single s.size 0 [] by rw [← HS.out, List.append_assoc]; rfl)
          have hel2 := Lib.hid (show (l ++ Lib.encodeRune 92 ++ Lib.encodeRune 102).length ≤ 6 * (i + wd) by rw [List.append_assoc, List.length_append]; simp only [List.length_append] at hel ⊢; have : (Lib.encodeRune 92 ++ Lib.encodeRune 102).length = 2 := rfl; simp only [List.length_append] at this; omega)
          clear HS hel
          go_wp2_with fail
          refine (put_rune w w1 l 92 HB1.out (by omega) (by omega) (by omega)).mono ?_
          rintro e2 w2 ⟨⟨n2, rfl⟩, hb2⟩
          have HB2 := Lib.hid hb2
          clear hb2
          go_wp2_with fail
          refine (put_rune w w2 _ 102 HB2.out (by omega) (by omega) (by rw [List.length_append]; have : (Lib.encodeRune 92).length = 1 := rfl; omega)).mono ?_
          rintro e3 w3 ⟨⟨n3, rfl⟩, hb3⟩
          have HB3 := Lib.hid hb3
          clear hb3
          go_wp2_with fail
          go_roundw
          case rel => exact ⟨i + wd, f, _, by go_num, HS2, HB3, by omega, by omega, hel2.out⟩
          case measure => simp [intOf]; omega
        · have HS2 := Lib.hid (show runE s single f (i + wd) (l ++ Lib.encodeRune 92 ++ Lib.encodeRune 110) = runE s single s.size 0 [] by rw [← HS.out, List.append_assoc]; rfl)
          have hel2 := Lib.hid (show (l ++ Lib.encodeRune 92 ++ Lib.encodeRune 110).length ≤ 6 * (i + wd) by rw [List.append_assoc, List.length_append]; simp only [List.length_append] at hel ⊢; have : (Lib.encodeRune 92 ++ Lib.encodeRune 110).length = 2 := rfl; simp only [List.length_append] at this; omega)
          clear HS hel
          go_wp2_with fail
          refine (put_rune w w1 l 92 HB1.out (by omega) (by omega) (by omega)).mono ?_
          rintro e2 w2 ⟨⟨n2, rfl⟩, hb2⟩
          have HB2 := Lib.hid hb2
          clear hb2
          go_wp2_with fail
          refine (put_rune w w2 _ 110 HB2.out (by omega) (by omega) (by rw [List.length_append]; have : (Lib.encodeRune 92).length = 1 := rfl; omega)).mono ?_
          rintro e3 w3 ⟨⟨n3, rfl⟩, hb3⟩
          have HB3 := Lib.hid hb3
          clear hb3
          go_wp2_with fail
          go_roundw
          case rel => exact ⟨i + wd, f, _, by go_num, HS2, HB3, by omega, by omega, hel2.out⟩
          case measure => simp [intOf]; omega
        · have HS2 := Lib.hid (show runE s single f (i + wd) (l ++ Lib.encodeRune 92 ++ Lib.encodeRune 114) = runE s single s.size 0 [] by rw [← HS.out, List.append_assoc]; rfl)
          have hel2 := Lib.hid (show (l ++ Lib.encodeRune 92 ++ Lib.encodeRune 114).length ≤ 6 * (i + wd) by rw [List.append_assoc, List.length_append]; simp only [List.length_append] at hel ⊢; have : (Lib.encodeRune 92 ++ Lib.encodeRune 114).length = 2 := rfl; simp only [List.length_append] at this; omega)
          clear HS hel
          go_wp2_with fail
          refine (put_rune w w1 l 92 HB1.out (by omega) (by omega) (by omega)).mono ?_
          rintro e2 w2 ⟨⟨n2, rfl⟩, hb2⟩
          have HB2 := Lib.hid hb2
          clear hb2
          go_wp2_with fail
          refine (put_rune w w2 _ 114 HB2.out (by omega) (by omega) (by rw [List.length_append]; have : (Lib.encodeRune 92).length = 1 := rfl; omega)).mono ?_
          rintro e3 w3 ⟨⟨n3, rfl⟩, hb3⟩
          have HB3 := Lib.hid hb3
          clear hb3
          go_wp2_with fail
          go_roundw
          case rel => exact ⟨i + wd, f, _, by go_num, HS2, HB3, by omega, by omega, hel2.out⟩
          case measure => simp [intOf]; omega
        · have HS2 := Lib.hid (show runE s single f (i + wd) (l ++ Lib.encodeRune 92 ++ Lib.encodeRune 116) = runE s single s.size 0 [] by rw [← HS.out, List.append_assoc]; rfl)
          have hel2 := Lib.hid (show (l ++ Lib.encodeRune 92 ++ Lib.encodeRune 116).length ≤ 6 * (i + wd) by rw [List.append_assoc, List.length_append]; simp only [List.length_append] at hel ⊢; have : (Lib.encodeRune 92 ++ Lib.encodeRune 116).length = 2 := rfl; simp only [List.length_append] at this; omega)
          clear HS hel
          go_wp2_with fail
          refine (put_rune w w1 l 92 HB1.out (by omega) (by omega) (by omega)).mono ?_
          rintro e2 w2 ⟨⟨n2, rfl⟩, hb2⟩
          have HB2 := Lib.hid hb2
          clear hb2
          go_wp2_with fail
          refine (put_rune w w2 _ 116 HB2.out (by omega) (by omega) (by rw [List.length_append]; have : (Lib.encodeRune 92).length = 1 := rfl; omega)).mono ?_
          rintro e3 w3 ⟨⟨n3, rfl⟩, hb3⟩
          have HB3 := Lib.hid hb3
          clear hb3
          go_wp2_with fail
          go_roundw
          case rel => exact ⟨i + wd, f, _, by go_num, HS2, HB3, by omega, by omega, hel2.out⟩
          case measure => simp [intOf]; omega
        · have HS2 := Lib.hid (show runE s single f (i + wd) (l ++ (⟨#[92, 117, 48, 48, 48, 48]⟩ : ByteArray).data.toList) = runE s single s.size 0 [] by rw [← HS.out]; rfl)
          have hel2 := Lib.hid (show (l ++ (⟨#[92, 117, 48, 48, 48, 48]⟩ : ByteArray).data.toList).length ≤ 6 * (i + wd) by rw [List.length_append]; simp; omega)
          clear HS hel
          go_wp2_with fail
          refine (put_str w w1 l ⟨#[92, 117, 48, 48, 48, 48]⟩ HB1.out (by decide) (by omega)).mono ?_
          rintro e2 w2 ⟨⟨n2, rfl⟩, hb2⟩
          have HB2 := Lib.hid hb2
          clear hb2
          go_wp2_with fail
          go_roundw
          case rel => exact ⟨i + wd, f, _, by go_num, HS2, HB2, by omega, by omega, hel2.out⟩
          case measure => simp [intOf]; omega
      have q0 : ((rn : Int) == 34) = false := by simp; omega
      have q1 : ((rn : Int) == 39) = false := by simp; omega
      have q2 : ((rn : Int) == 92) = false := by simp; omega
      have q3 : ((rn : Int) == 8) = false := by simp; omega
      have q4 : ((rn : Int) == 12) = false := by simp; omega
      have q5 : ((rn : Int) == 10) = false := by simp; omega
      have q6 : ((rn : Int) == 13) = false := by simp; omega
      have q7 : ((rn : Int) == 9) = false := by simp; omega
      have q8 : ((rn : Int) == 0) = false := by simp; omega
      by_cases c1 : rn < 32 ∨ (127 ≤ rn ∧ rn ≤ 159)
      · have hex := escB_hex single rn c0 c1
        have HS2 := Lib.hid (show runE s single f (i + wd) (l ++ Lib.encodeRune 92 ++ Lib.encodeRune 117 ++ [48, 48, hexD (rn / 16), hexD (rn % 16)]) = runE s single s.size 0 [] by rw [← HS.out, hex, List.append_assoc, List.append_assoc]; rfl)
        have hel2 := Lib.hid (show (l ++ Lib.encodeRune 92 ++ Lib.encodeRune 117 ++ [48, 48, hexD (rn / 16), hexD (rn % 16)]).length ≤ 6 * (i + wd) by
          rw [List.length_append, List.length_append, List.length_append]
          have a1 : (Lib.encodeRune 92).length = 1 := rfl
          have a2 : (Lib.encodeRune 117).length = 1 := rfl
          simp only [List.length_cons, List.length_nil]
          omega)
        clear HS hel hex c0
        have hr256 : rn < 256 := by omega
        have hl2 : l.length ≤ 1000000000 := by omega
        have g1 : (decide ((rn : Int) < 32)) = decide (rn < 32) := by simp; omega
        have g2 : (decide ((rn : Int) ≥ 127)) = decide (127 ≤ rn) := by simp; omega
        have g3 : (decide ((rn : Int) ≤ 159)) = decide (rn ≤ 159) := by simp; omega
        have go1 : decide (rn < 32) = true ∨ (decide (rn < 32) = false ∧ decide (127 ≤ rn) = true ∧ decide (rn ≤ 159) = true) := by simp; omega
        generalize decide (rn < 32) = y1 at *
        generalize decide (127 ≤ rn) = y2 at *
        generalize decide (rn ≤ 159) = y3 at *
        have HC1 := Lib.hid c1
        clear c1
        rcases go1 with rfl | ⟨rfl, rfl, rfl⟩
        all_goals
          go_wp2_with fail
          refine (put_rune w w1 l 92 HB1.out (by omega) (by omega) (by omega)).mono ?_
          rintro e2 w2 ⟨⟨n2, rfl⟩, hb2⟩
          have HB2 := Lib.hid hb2
          clear hb2
          go_wp2_with fail
          refine (put_rune w w2 _ 117 HB2.out (by omega) (by omega) (by rw [List.length_append]; have : (Lib.encodeRune 92).length = 1 := rfl; omega)).mono ?_
          rintro e3 w3 ⟨⟨n3, rfl⟩, hb3⟩
          have HB3 := Lib.hid hb3
          clear hb3
          go_wp2_with fail
          refine (fmtInt_any rn hr256 _ (HT.out.below HB3.out.2).2.2).mono ?_
          rintro e4 w4 ⟨rfl, hb4⟩
          have HB4 := Lib.hid (HB3.out.below hb4)
          clear hb4
          generalize hexD (rn / 16) = x1 at *
          generalize hexD (rn % 16) = x2 at *
          go_wp2_with fail
          have HX := Lib.hid (tail_hex x1 x2)
          obtain ⟨S, hS⟩ : ∃ S : ByteArray, S = (⟨#[49, 48, 48, x1, x2]⟩ : ByteArray).extract 1 5 := ⟨_, rfl⟩
          have HSS := Lib.hid (show S.data.toList = [48, 48, x1, x2] by rw [hS]; exact tail_hex x1 x2)
          have hsz : S.size ≤ 1000000 := by
            have h1 := congrArg List.length HSS.out
            have h2 : S.data.toList.length = S.size := Array.length_toList
            simp at h1
            omega
          rw [← hS]
          clear hS HX
          refine (put_str w w4 _ S HB4.out hsz (by rw [List.length_append, List.length_append]; have a1 : (Lib.encodeRune 92).length = 1 := rfl; have a2 : (Lib.encodeRune 117).length = 1 := rfl; omega)).mono ?_
          rintro e5 w5 ⟨⟨n5, rfl⟩, hb5⟩
          rw [HSS.out] at hb5
          have HB5 := Lib.hid hb5
          clear hb5 hsz HSS
          go_wp2_with fail
          go_roundw
          case rel => exact ⟨i + wd, f, _, by go_num, HS2, HB5, by omega, by omega, hel2.out⟩
          case measure => simp [intOf]; omega
      · have HS2 := Lib.hid (show runE s single f (i + wd) (l ++ Lib.encodeRune (rn : Int)) = runE s single s.size 0 [] by
          rw [← HS.out, escB_plain single rn c0 c1])
        have hel2 := Lib.hid (show (l ++ Lib.encodeRune (rn : Int)).length ≤ 6 * (i + wd) by rw [List.length_append]; have := enc_le2 (rn : Int); omega)
        have g1 : (decide ((rn : Int) < 32)) = false := by simp; omega
        have g4 : (decide ((rn : Int) ≥ 127)) = true → (decide ((rn : Int) ≤ 159)) = false := by simp; omega
        clear HS hel c0
        by_cases c2 : rn < 127
        · have g2 : (decide ((rn : Int) ≥ 127)) = false := by simp; omega
          clear c1 c2 g4
          go_wp2_with fail
          refine (put_rune w w1 l _ HB1.out (by omega) (by omega) (by omega)).mono ?_
          rintro e2 w2 ⟨⟨n2, rfl⟩, hb2⟩
          have HB2 := Lib.hid hb2
          clear hb2
          go_wp2_with fail
          go_roundw
          case rel => exact ⟨i + wd, f, _, by go_num, HS2, HB2, by omega, by omega, hel2.out⟩
          case measure => simp [intOf]; omega
        · have g2 : (decide ((rn : Int) ≥ 127)) = true := by simp; omega
          have g3 : (decide ((rn : Int) ≤ 159)) = false := g4 g2
          clear c1 c2 g4
          go_wp2_with fail
          refine (put_rune w w1 l _ HB1.out (by omega) (by omega) (by omega)).mono ?_
          rintro e2 w2 ⟨⟨n2, rfl⟩, hb2⟩
          have HB2 := Lib.hid hb2
          clear hb2
          go_wp2_with fail
          go_roundw
          case rel => exact ⟨i + wd, f, _, by go_num, HS2, HB2, by omega, by omega, hel2.out⟩
          case measure => simp [intOf]; omega
    · have HE := Lib.hid (show runE s single s.size 0 [] = l by
        rw [← HR.out]
        cases fuel with
        | zero => rfl
        | succ f => rw [runE, if_neg hlt])
      go_wp2_with fail
      refine (take_str w wr l HB.out).mono ?_
      rintro e1 w1 ⟨rfl, hb1⟩
      have HB1 := Lib.hid hb1
      clear hb1
      go_wp2_with fail
      go_ret
      exact ⟨by rw [HE.out]; rfl, HB1.out⟩
end Go.Proofs.YtpgmnggicmbacaaGreatDoor
