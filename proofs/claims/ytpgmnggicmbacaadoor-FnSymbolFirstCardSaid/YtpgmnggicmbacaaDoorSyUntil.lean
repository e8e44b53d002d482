/-
  lexUntilNewline.
-/
import Derived.Test.YtpgmnggicmbacaaDoorSyTrunc
import Derived.Test.YtpgmnggicmbacaaDoorSyBkBase
namespace Go.Proofs.YtpgmnggicmbacaaDoor
open Go.Shelf Go.RowKit
set_option linter.unusedVariables false
set_option linter.unusedSimpArgs false

/-- What lexUntilNewline answers. -/
def UlPost (b : Nat) (s : ByteArray) (K : LK) (w : World) (e : Ending) (w' : World) : Prop :=
  ∃ (t : ByteArray) (bl i z : Nat) (ls : Int), e = .returned (.tuple #[.string t, .int .i64 bl, .int .i64 i]) ∧ z ≤ s.size ∧ t.size ≤ 4 * s.size ∧ LexK w' b s K z ls ∧ w.grownBy w' (some b)
set_option maxRecDepth 100000 in
set_option maxHeartbeats 3200000 in
theorem untilK (b : Nat) (s : ByteArray) (K : LK) (pos : Nat) (ls : Int) (hs : s.size ≤ 1000000) (hp : pos ≤ s.size) (w : World) (h : LexK w b s K pos ls) (hT : TabsAt b w) :
    Calls Tryd.prog 69 #[.pointer (some ⟨b, 0, none⟩)] w (UlPost b s K w) := by
  have hbl : b < w.heap.size := h.lt
  have HC := Lib.hid (TbI.start (show WkI b s K w w pos from ⟨⟨ls, h⟩, grown_below (Below.refl _ _) _⟩))
  have HT := Lib.hid hT
  clear h hT
  go_enter Tryd.func69, Tryd.ntmps69
  go_wp2_with fail
  refine (HC.out.peekC HT.out hbl).mono ?_
  rintro e1 w1 ⟨rfl, hi1⟩
  have HI := Lib.hid hi1
  clear hi1 HC
  obtain ⟨rr, hrr⟩ : ∃ rr, rr = peekR s pos := ⟨_, rfl⟩
  rw [← hrr]
  have HR := Lib.hid hrr
  clear hrr
  go_wp2_with fail
  go_loopw [6, 7] (fun q r wr => ∃ (n p : Nat) (rv : Int) (v : List UInt8), q = .int .i64 n ∧ r = .int .i32 rv ∧ Hid (rv = peekR s p) ∧ Hid (TbI b s K w w.heap.size wr p v) ∧ p ≤ s.size ∧ n ≤ v.length ∧ v.length ≤ 4 * p) (fun _ _ wr => s.size - lexPos b wr)
  case atStart => exact ⟨0, pos, rr, [], rfl, rfl, HR, HI, by omega, by simp, by simp⟩
  case round =>
    clear HR HI
    obtain ⟨n, p, rv, v, rfl, rfl, HR, HI, h1, h2, h3⟩ := hrel
    by_cases hq : rv = -1 ∨ rv = 10
    · rcases hq with hq | hq
      · subst hq
        go_wp2_with fail
        refine (HI.out.cutC n h2 (by omega)).mono ?_
        rintro e2 w2 ⟨he2, hi2⟩
        have HI2 := Lib.hid hi2
        clear hi2
        have htk : (v.take n).length ≤ 4 * s.size := by rw [List.length_take]; omega
        obtain ⟨v2, hv2⟩ : ∃ v2, v2 = v.take n := ⟨_, rfl⟩
        rw [← hv2] at htk HI2
        clear hv2
        subst he2
        go_wp2_with fail
        refine (HI2.out.strC).mono ?_
        rintro e3 w3 ⟨rfl, hi3⟩
        have HI3 := Lib.hid hi3
        clear hi3
        go_wp2_with fail
        refine (whiteK b s K p _ hs h1 _ HI3.out.1.1.choose_spec (HT.out.grown HI3.out.1.2 hbl)).mono ?_
        rintro e4 w4 ⟨l, i, t, ls2, rfl, g1, g2, g3, g4, g5⟩
        have HF := Lib.hid (And.intro g4 (grown_trans HI3.out.1.2 g5))
        clear g4 g5
        rcases Nat.eq_zero_or_pos l with hl | hl
        · subst hl
          go_wp2_with fail
          go_ret3
          exact ⟨_, 0, i, t, ls2, rfl, g2, (show v2.toArray.size ≤ _ by simpa using htk), HF.out⟩
        · have q3 : (l : Int) > 0 := by omega
          have wl : IntKind.i64.wrap ((l : Int) - 1) = ((l - 1 : Nat) : Int) := by rw [IntWalk.i64_in _ (by omega)]; omega
          go_wp2_with fail
          go_ret3
          exact ⟨_, l - 1, i, t, ls2, rfl, g2, (show v2.toArray.size ≤ _ by simpa using htk), HF.out⟩
      · subst hq
        go_wp2_with fail
        refine (HI.out.cutC n h2 (by omega)).mono ?_
        rintro e2 w2 ⟨he2, hi2⟩
        have HI2 := Lib.hid hi2
        clear hi2
        have htk : (v.take n).length ≤ 4 * s.size := by rw [List.length_take]; omega
        obtain ⟨v2, hv2⟩ : ∃ v2, v2 = v.take n := ⟨_, rfl⟩
        rw [← hv2] at htk HI2
        clear hv2
        subst he2
        go_wp2_with fail
        refine (HI2.out.strC).mono ?_
        rintro e3 w3 ⟨rfl, hi3⟩
        have HI3 := Lib.hid hi3
        clear hi3
        go_wp2_with fail
        refine (whiteK b s K p _ hs h1 _ HI3.out.1.1.choose_spec (HT.out.grown HI3.out.1.2 hbl)).mono ?_
        rintro e4 w4 ⟨l, i, t, ls2, rfl, g1, g2, g3, g4, g5⟩
        have HF := Lib.hid (And.intro g4 (grown_trans HI3.out.1.2 g5))
        clear g4 g5
        rcases Nat.eq_zero_or_pos l with hl | hl
        · subst hl
          go_wp2_with fail
          go_ret3
          exact ⟨_, 0, i, t, ls2, rfl, g2, (show v2.toArray.size ≤ _ by simpa using htk), HF.out⟩
        · have q3 : (l : Int) > 0 := by omega
          have wl : IntKind.i64.wrap ((l : Int) - 1) = ((l - 1 : Nat) : Int) := by rw [IntWalk.i64_in _ (by omega)]; omega
          go_wp2_with fail
          go_ret3
          exact ⟨_, l - 1, i, t, ls2, rfl, g2, (show v2.toArray.size ≤ _ by simpa using htk), HF.out⟩
    · obtain ⟨q1, q2⟩ : rv ≠ -1 ∧ rv ≠ 10 := by omega
      have hr := HR.out
      have hlt : p < s.size := peek_not_eof (by rw [← hr]; exact q1)
      have hn1 := nextP_lt hlt
      have hn2 := nextP_in (s := s) (pos := p) h1
      have hrng := peekR_rng s p
      rw [← hr] at hrng
      have q3 : (rv != -1) = true := by simpa using q1
      have q4 : (rv != 10) = true := by simpa using q2
      clear hr
      go_wp2_with fail
      refine (HI.out.nextC hs (by omega) HT.out hbl).mono ?_
      rintro e2 w2 ⟨rfl, hi2⟩
      have HI2 := Lib.hid hi2
      clear hi2
      go_wp2_with fail
      refine (HI2.out.putC rv hrng.1 hrng.2 (by omega)).mono ?_
      rintro e3 w3 ⟨⟨nn, rfl⟩, hi3⟩
      have HI3 := Lib.hid hi3
      clear hi3
      have he4 := enc4 rv
      have hlen : (v ++ Lib.encodeRune rv).length = v.length + (Lib.encodeRune rv).length := by rw [List.length_append]
      obtain ⟨v2, hv2⟩ : ∃ v2, v2 = v ++ Lib.encodeRune rv := ⟨_, rfl⟩
      rw [← hv2] at hlen HI3
      clear hv2
      go_wp2_with fail
      refine (isHor_any rv _).mono ?_
      rintro e4 w4 ⟨rfl, rfl⟩
      cases hh : (rv == 32 || rv == 9 || rv == 13)
      · go_wp2_with fail
        refine (HI3.out.lenC (by omega)).mono ?_
        rintro e5 w5 ⟨rfl, hi5⟩
        have HI5 := Lib.hid hi5
        clear hi5
        go_wp2_with fail
        refine (HI5.out.peekC HT.out hbl).mono ?_
        rintro e6 w6 ⟨rfl, hi6⟩
        have HI6 := Lib.hid hi6
        have HM := Lib.hid (show s.size - lexPos b w6 < s.size - lexPos b wr by rw [hi6.pos, HI.out.pos]; omega)
        clear hi6
        go_wp2_with fail
        go_roundw
        case rel => exact ⟨v2.length, nextP s p, _, v2, by go_num, rfl, Lib.hid rfl, HI6, hn2, by omega, by omega⟩
        case measure => exact HM.out
      · go_wp2_with fail
        refine (HI3.out.peekC HT.out hbl).mono ?_
        rintro e6 w6 ⟨rfl, hi6⟩
        have HI6 := Lib.hid hi6
        have HM := Lib.hid (show s.size - lexPos b w6 < s.size - lexPos b wr by rw [hi6.pos, HI.out.pos]; omega)
        clear hi6
        go_wp2_with fail
        go_roundw
        case rel => exact ⟨n, nextP s p, _, v2, rfl, rfl, Lib.hid rfl, HI6, hn2, by omega, by omega⟩
        case measure => exact HM.out
end Go.Proofs.YtpgmnggicmbacaaDoor
