/-
  parser.StringUnescape: it makes of a text with escapes what runP says.
-/
import Derived.Test.YtpgmnggicmbacaaGreatDoorEsBuf
import Derived.Deep.QuietTactic
import Derived.BigQuiet
import Derived.IntWalk
namespace Go.Proofs.YtpgmnggicmbacaaGreatDoor
open Go.Shelf Go.RowKit

def ErrPost (w : World) (e : Ending) (w' : World) : Prop := (∃ v, e = .returned (.iface 93 v)) ∧ Below w.heap.size w w'
set_option maxRecDepth 100000 in
theorem makeErr_any (m : ByteArray) (x0 x1 x2 x3 x4 x5 : Value) (w : World) :
    Calls Tryz.prog 17 #[.string m, .agg #[x0, x1, x2, x3, x4, x5]] w (ErrPost w) := by
  go_enter Tryz.func17, Tryz.ntmps17
  go_wp2_with fail
  go_ret
  exact ⟨⟨_, rfl⟩, (Below.refl _ _).alloc (Nat.le_refl _) _⟩

theorem isSurr_yes (c : Nat) (h1 : 55296 ≤ c) (h2 : c < 57344) (w : World) : Calls Tryz.prog 20 #[.int .i32 c] w fun e w' => e = .returned (.bool true) ∧ w = w' := by
  have q1 : decide ((55296 : Int) ≤ (c : Int)) = true := by simp; omega
  have q2 : decide ((c : Int) < 57344) = true := by simp; omega
  clear h1 h2
  go_enter Tryz.func20, Tryz.ntmps20
  go_wp2
  go_ret
  exact ⟨rfl, rfl⟩
theorem isSurr_no (c : Nat) (h : c < 55296 ∨ 57344 ≤ c) (w : World) : Calls Tryz.prog 20 #[.int .i32 c] w fun e w' => e = .returned (.bool false) ∧ w = w' := by
  by_cases h1 : c < 55296
  · have q1 : decide ((55296 : Int) ≤ (c : Int)) = false := by simp; omega
    clear h h1
    go_enter Tryz.func20, Tryz.ntmps20
    go_wp2
    go_ret
    exact ⟨rfl, rfl⟩
  · have q1 : decide ((55296 : Int) ≤ (c : Int)) = true := by simp; omega
    have q2 : decide ((c : Int) < 57344) = false := by simp; omega
    clear h h1
    go_enter Tryz.func20, Tryz.ntmps20
    go_wp2
    go_ret
    exact ⟨rfl, rfl⟩
theorem ret_int {k : IntKind} {a b : Int} (h : a = b) : Ending.returned (.int k a) = .returned (.int k b) := by rw [h]
theorem or_1024 (x y : Nat) (hx : x < 1024) (hy : y < 1024) : bits .or .i32 ((x : Int) * 1024) (y : Int) = ((x * 1024 + y : Nat) : Int) := by
  have e1 : (x : Int) * 1024 = ((x * 1024 : Nat) : Int) := by omega
  have h2 : (x * 1024) ||| y = x * 1024 + y := by
    have := Nat.two_pow_add_eq_or_of_lt (b := y) (i := 10) (by omega) x
    rw [show (2 : Nat) ^ 10 = 1024 from rfl, Nat.mul_comm] at this
    exact this.symm
  have small : ∀ a : Nat, a < 4294967296 → (BitVec.ofInt 32 (a : Int)).toNat = a := fun a ha => by
    rw [BitVec.ofInt_natCast, BitVec.toNat_ofNat]; exact Nat.mod_eq_of_lt (by omega)
  rw [e1]
  show IntKind.i32.wrap ((BitVec.ofInt 32 ((x * 1024 : Nat) : Int) ||| BitVec.ofInt 32 ((y : Nat) : Int)).toNat : Int) = _
  rw [BitVec.toNat_or, small _ (by omega), small y (by omega), h2, IntKind.wrap_i32]
  omega
set_option maxRecDepth 100000 in
theorem pair_any (c d : Nat) (hc : 55296 ≤ c ∧ c < 57344) (hd : d < 65536) (w : World) : Calls Tryz.prog 21 #[.int .i32 c, .int .i32 d] w fun e w' => e = .returned (.int .i32 (pairR c d : Nat)) ∧ w = w' := by
  have q1 : decide ((55296 : Int) ≤ (c : Int)) = true := by simp; omega
  by_cases h1 : c < 56320
  · have q2 : decide ((c : Int) < 56320) = true := by simp; omega
    by_cases h2 : 56320 ≤ d
    · have q3 : decide ((56320 : Int) ≤ (d : Int)) = true := by simp; omega
      by_cases h3 : d < 57344
      · have q4 : decide ((d : Int) < 57344) = true := by simp; omega
        have HP := Lib.hid (show pairR c d = 65536 + (c - 55296) * 1024 + (d - 56320) by unfold pairR; rw [if_pos ⟨h1, h2, h3⟩])
        go_enter Tryz.func21, Tryz.ntmps21
        go_wp2_with fail
        go_ret
        refine ⟨ret_int ?_, rfl⟩
        show wrap32 (bits BinOp.or IntKind.i32 (((c : Int) - 55296) * 1024) ((d : Int) - 56320) + 65536) = _
        rw [show (c : Int) - 55296 = ((c - 55296 : Nat) : Int) by omega, show (d : Int) - 56320 = ((d - 56320 : Nat) : Int) by omega, or_1024 _ _ (by omega) (by omega), HP.out]
        rw [IntWalk.wrap32_in _ (by omega)]
        omega
      · have q4 : decide ((d : Int) < 57344) = false := by simp; omega
        have HP := Lib.hid (show pairR c d = 65533 by unfold pairR; rw [if_neg (by omega)])
        clear h1 h2 h3 hc
        go_enter Tryz.func21, Tryz.ntmps21
        go_wp2_with fail
        go_ret
        exact ⟨by rw [HP.out]; rfl, rfl⟩
    · have q3 : decide ((56320 : Int) ≤ (d : Int)) = false := by simp; omega
      have HP := Lib.hid (show pairR c d = 65533 by unfold pairR; rw [if_neg (by omega)])
      clear h1 h2 hc
      go_enter Tryz.func21, Tryz.ntmps21
      go_wp2_with fail
      go_ret
      exact ⟨by rw [HP.out]; rfl, rfl⟩
  · have q2 : decide ((c : Int) < 56320) = false := by simp; omega
    have HP := Lib.hid (show pairR c d = 65533 by unfold pairR; rw [if_neg (by omega)])
    clear h1 hc
    go_enter Tryz.func21, Tryz.ntmps21
    go_wp2_with fail
    go_ret
    exact ⟨by rw [HP.out]; rfl, rfl⟩
/-- What StringUnescape answers. -/
def PuPost (s : ByteArray) (w : World) (e : Ending) (w' : World) : Prop :=
  (match runP s s.size 0 [] with
    | none => ∃ v, e = .returned (.tuple #[.string ⟨#[]⟩, .iface 93 v])
    | some l => e = .returned (.tuple #[.string ⟨l.toArray⟩, .nilIface])) ∧ Below w.heap.size w w'
theorem enc_le (r : Int) : (Lib.encodeRune r).length ≤ 4 := by
  rw [← Lib.runeCells_length]
  exact (Lib.runeCells_le r).2
/-- The cells of a place in the source. -/
def LocAt (w : World) (a o : Nat) (x0 x1 x2 x3 x4 x5 : Value) : Prop :=
  w.cell? ⟨a, o, none⟩ = some x0 ∧ w.cell? ⟨a, o + 1, none⟩ = some x1 ∧ w.cell? ⟨a, o + 2, none⟩ = some x2 ∧ w.cell? ⟨a, o + 3, none⟩ = some x3 ∧ w.cell? ⟨a, o + 4, none⟩ = some x4 ∧ w.cell? ⟨a, o + 5, none⟩ = some x5
theorem loc_cells {w w' : World} {a o : Nat} {x0 x1 x2 x3 x4 x5 : Value} (h : LocAt w a o x0 x1 x2 x3 x4 x5) (hb : Below w.heap.size w w') : LocAt w' a o x0 x1 x2 x3 x4 x5 := by
  have k : ∀ {p : Addr} {u : Value}, w.cell? p = some u → w'.cell? p = some u := fun {p} {_} h => (hb.cell (World.block_lt_of_cell? w p h)).trans h
  obtain ⟨k0, k1, k2, k3, k4, k5⟩ := h
  exact ⟨k k0, k k1, k k2, k k3, k k4, k k5⟩
theorem LocAt.ofBlk {w : World} {a : Nat} {x0 x1 x2 x3 x4 x5 : Value} (h : Blk w a 44 #[x0, x1, x2, x3, x4, x5]) : LocAt w a 0 x0 x1 x2 x3 x4 x5 :=
  ⟨h.cell 0, h.cell 1, h.cell 2, h.cell 3, h.cell 4, h.cell 5⟩
set_option maxRecDepth 100000 in
set_option maxHeartbeats 6400000 in
theorem unescape_any (a o : Nat) (x0 x1 x2 x3 x4 x5 : Value) (s : ByteArray) (hs : s.size ≤ 100000000) (w : World) (hT : Tabs3 w) (hL : LocAt w a o x0 x1 x2 x3 x4 x5) :
    Calls Tryz.prog 12 #[.pointer (some ⟨a, o, none⟩), .string s] w (PuPost s w) := by
  have HT := Lib.hid hT
  have HL := Lib.hid hL
  clear hT hL
  go_enter Tryz.func12, Tryz.ntmps12
  go_wp2_with fail
  go_loopw [7] (fun t wr => ∃ (i fuel : Nat) (l : List UInt8), t = .int .i64 i ∧ Hid (runP s fuel i l = runP s s.size 0 []) ∧ Hid (Buf w wr l) ∧ s.size ≤ i + fuel ∧ i ≤ s.size + 4 ∧ l.length ≤ 4 * i) (fun t _ => s.size - (intOf t).toNat)
  case atStart => exact ⟨0, s.size, [], rfl, Lib.hid rfl, Lib.hid (Buf.start w), by omega, by omega, by simp⟩
  case round =>
    obtain ⟨i, fuel, l, rfl, HR, HB, h1, h2, h3⟩ := hrel
    by_cases hlt : i < s.size
    · obtain ⟨f, rfl⟩ : ∃ f, fuel = f + 1 := ⟨fuel - 1, by omega⟩
      have hwl := width_le s i
      have hwp := width_pos s i hlt
      have hdl := decode_le s i
      go_wp2_with fail
      refine (dec_at s i hlt w wr l HB.out HT.out).mono ?_
      rintro e1 w1 ⟨rfl, hb1⟩
      have HB1 := Lib.hid hb1
      clear hb1 HB
      generalize hrn : (Utf8.decode s i).1 = rn at *
      generalize hwd : (Utf8.decode s i).2 = wd at *
      have HRN := Lib.hid hrn
      have HWD := Lib.hid hwd
      clear hrn hwd
      by_cases c1 : rn = 92
      · subst c1
        obtain ⟨k0, k1, k2, k3, k4, k5⟩ := loc_cells HL.out HB1.out.2
        have HG := Lib.hid (show runP s s.size 0 [] = contP s f l (if s.size ≤ i + wd then none else stepB s (i + wd + (Utf8.decode s (i + wd)).2) (Utf8.decode s (i + wd)).1) by
          rw [← HR.out, runP_step hlt]
          unfold stepP
          rw [HRN.out, HWD.out, if_pos rfl])
        by_cases c2 : s.size ≤ i + wd
        · have HE := Lib.hid (show runP s s.size 0 [] = none by rw [HG.out, if_pos c2]; rfl)
          go_wp2_with fail
          refine (makeErr_any _ _ _ _ _ _ _ _).mono ?_
          rintro e9 w9 ⟨⟨v9, rfl⟩, hb9⟩
          have HB9 := Lib.hid (HB1.out.2.trans (hb9.mono HB1.out.le))
          clear hb9
          go_wp2_with fail
          go_ret2
          exact ⟨by rw [HE.out]; exact ⟨_, rfl⟩, HB9.out⟩
        have hlt2 : i + wd < s.size := by omega
        have hwl2 := width_le s (i + wd)
        have hwp2 := width_pos s (i + wd) hlt2
        have hdl2 := decode_le s (i + wd)
        clear k0 k1 k2 k3 k4 k5
        go_wp2_with fail
        refine (dec_at s (i + wd) hlt2 w w1 l HB1.out HT.out).mono ?_
        rintro e2 w2 ⟨rfl, hb2⟩
        have HB2 := Lib.hid hb2
        clear hb2
        generalize hrn2 : (Utf8.decode s (i + wd)).1 = r2 at *
        generalize hwd2 : (Utf8.decode s (i + wd)).2 = wd2 at *
        have HQ := Lib.hid (show runP s s.size 0 [] = contP s f l (stepB s (i + wd + wd2) r2) by
          rw [HG.out, if_neg c2])
        clear hrn2 hwd2 HG HR c2
        obtain ⟨k0, k1, k2, k3, k4, k5⟩ := loc_cells HL.out HB2.out.2
        by_cases c3 : r2 = 117
        · subst c3
          by_cases c4 : s.size < i + wd + wd2 + 4
          · have HE := Lib.hid (show runP s s.size 0 [] = none by rw [HQ.out]; unfold stepB; rw [if_pos rfl, if_pos c4]; rfl)
            clear HQ
            go_wp2_with fail
            refine (makeErr_any _ _ _ _ _ _ _ _).mono ?_
            rintro e9 w9 ⟨⟨v9, rfl⟩, hb9⟩
            have HB9 := Lib.hid (HB2.out.2.trans (hb9.mono HB2.out.le))
            clear hb9
            go_wp2_with fail
            go_ret2
            exact ⟨by rw [HE.out]; exact ⟨_, rfl⟩, HB9.out⟩
          clear k0 k1 k2 k3 k4 k5
          go_wp2_with fail
          refine (hex_at s (i + wd + wd2) (by omega) w w2 l HB2.out HT.out).mono ?_
          rintro e3 w3 ⟨hcase, hb3⟩
          have HB3 := Lib.hid hb3
          clear hb3
          obtain ⟨k0, k1, k2, k3, k4, k5⟩ := loc_cells HL.out HB3.out.2
          cases hx : hx4 s (i + wd + wd2) with
          | none =>
            rw [hx] at hcase
            obtain ⟨v, x, rfl⟩ := hcase
            have HE := Lib.hid (show runP s s.size 0 [] = none by rw [HQ.out]; unfold stepB; rw [if_pos rfl, if_neg c4, hx]; rfl)
            clear HQ hx
            go_wp2_with fail
            refine (makeErr_any _ _ _ _ _ _ _ _).mono ?_
            rintro e9 w9 ⟨⟨v9, rfl⟩, hb9⟩
            have HB9 := Lib.hid (HB3.out.2.trans (hb9.mono HB3.out.le))
            clear hb9
            go_wp2_with fail
            go_ret2
            exact ⟨by rw [HE.out]; exact ⟨_, rfl⟩, HB9.out⟩
          | some n =>
            rw [hx] at hcase
            obtain ⟨g, cap, rfl, g0, g1⟩ := hcase
            have hn := hx4_lt hx
            have HQ2 := Lib.hid (show runP s s.size 0 [] = contP s f l (stepC s (i + wd + wd2) n) by
              rw [HQ.out]
              unfold stepB
              rw [if_pos rfl, if_neg c4, hx]
              rfl)
            obtain ⟨hi, hhi⟩ : ∃ hi, hi = n / 256 := ⟨_, rfl⟩
            obtain ⟨lo, hlo⟩ : ∃ lo, lo = n % 256 := ⟨_, rfl⟩
            rw [← hhi] at g0
            rw [← hlo] at g1
            have hhi2 : hi < 256 := by omega
            have hlo2 : lo < 256 := by omega
            have hsum : (hi : Int) * 256 + (lo : Int) = (n : Int) := by omega
            have m1 : IntKind.i64.wrap ((hi : Int) * 256) = (hi : Int) * 256 := IntWalk.i64_in _ (by omega)
            have m2 : IntKind.i64.wrap ((hi : Int) * 256 + (lo : Int)) = (n : Int) := by rw [hsum]; exact IntWalk.i64_in _ (by omega)
            have m3 : IntKind.i32.wrap (n : Int) = (n : Int) := by rw [IntKind.wrap_i32]; omega
            have hbd : i + wd + wd2 + 4 ≤ s.size := by omega
            clear HQ hx hhi hlo hsum c4
            go_wp2_with fail
            go_quiet ((fail))
            have HB4 := Lib.hid (show Buf w (w3.drewN nq) l from ⟨HB3.out.1.drewN nq, below_drewB HB3.out.2 nq⟩)
            clear g0 g1 m1 m2 m3 k0 k1 k2 k3 k4 k5 HB3
            generalize w3.drewN nq = w4 at *
            by_cases hsur : 55296 ≤ n ∧ n < 57344
            · obtain ⟨k0, k1, k2, k3, k4, k5⟩ := loc_cells HL.out HB4.out.2
              have HSU := Lib.hid hsur
              clear hsur
              have HQ3 := Lib.hid (show runP s s.size 0 [] = contP s f l (if s.size < i + wd + wd2 + 10 then none
                  else if startsU s (i + wd + wd2 + 4) = false then none
                  else (hx4 s (i + wd + wd2 + 4 + 2)).map fun d => (i + wd + wd2 + 4 + 2 + 4, Lib.encodeRune (pairR n d : Nat))) by
                rw [HQ2.out]
                unfold stepC
                rw [if_pos HSU.out])
              clear HQ2
              by_cases c5 : s.size < i + wd + wd2 + 10
              · have HE := Lib.hid (show runP s s.size 0 [] = none by rw [HQ3.out, if_pos c5]; rfl)
                clear HQ3
                go_wp2_with fail
                refine (isSurr_yes n HSU.out.1 HSU.out.2 _).mono ?_
                rintro e5 w5 ⟨rfl, rfl⟩
                go_wp2_with fail
                refine (makeErr_any _ _ _ _ _ _ _ _).mono ?_
                rintro e9 w9 ⟨⟨v9, rfl⟩, hb9⟩
                have HB9 := Lib.hid (HB4.out.2.trans (hb9.mono HB4.out.le))
                clear hb9
                go_wp2_with fail
                go_ret2
                exact ⟨by rw [HE.out]; exact ⟨_, rfl⟩, HB9.out⟩
              cases hu : startsU s (i + wd + wd2 + 4) with
              | false =>
                have HE := Lib.hid (show runP s s.size 0 [] = none by rw [HQ3.out, if_neg c5, if_pos hu]; rfl)
                have u1 := str_two s (i + wd + wd2 + 4) (by omega)
                rw [hu] at u1
                have u2 : ((s.extract (i + wd + wd2 + 4) (i + wd + wd2 + 4 + 2)).toList != [92, 117]) = true := by rw [bne, u1]; rfl
                clear HQ3 hu
                go_wp2_with fail
                refine (isSurr_yes n HSU.out.1 HSU.out.2 _).mono ?_
                rintro e5 w5 ⟨rfl, rfl⟩
                go_wp2_with fail
                refine (makeErr_any _ _ _ _ _ _ _ _).mono ?_
                rintro e9 w9 ⟨⟨v9, rfl⟩, hb9⟩
                have HB9 := Lib.hid (HB4.out.2.trans (hb9.mono HB4.out.le))
                clear hb9
                go_wp2_with fail
                go_ret2
                exact ⟨by rw [HE.out]; exact ⟨_, rfl⟩, HB9.out⟩
              | true =>
                have u1 := str_two s (i + wd + wd2 + 4) (by omega)
                rw [hu] at u1
                have u2 : ((s.extract (i + wd + wd2 + 4) (i + wd + wd2 + 4 + 2)).toList != [92, 117]) = false := by rw [bne, u1]; rfl
                have HQ4 := Lib.hid (show runP s s.size 0 [] = contP s f l ((hx4 s (i + wd + wd2 + 4 + 2)).map fun d => (i + wd + wd2 + 4 + 2 + 4, Lib.encodeRune (pairR n d : Nat))) by
                  rw [HQ3.out, if_neg c5, if_neg (by rw [hu]; decide)])
                clear HQ3 hu k0 k1 k2 k3 k4 k5
                go_wp2_with fail
                refine (isSurr_yes n HSU.out.1 HSU.out.2 _).mono ?_
                rintro e5 w5 ⟨rfl, rfl⟩
                go_wp2_with fail
                refine (hex_at s (i + wd + wd2 + 4 + 2) (by omega) w w4 l HB4.out HT.out).mono ?_
                rintro e6 w6 ⟨hcase, hb6⟩
                have HB6 := Lib.hid hb6
                clear hb6 u1 u2
                obtain ⟨k0, k1, k2, k3, k4, k5⟩ := loc_cells HL.out HB6.out.2
                cases hx : hx4 s (i + wd + wd2 + 4 + 2) with
                | none =>
                  rw [hx] at hcase
                  obtain ⟨v, x, rfl⟩ := hcase
                  have HE := Lib.hid (show runP s s.size 0 [] = none by rw [HQ4.out, hx]; rfl)
                  clear HQ4 hx
                  go_wp2_with fail
                  refine (makeErr_any _ _ _ _ _ _ _ _).mono ?_
                  rintro e9 w9 ⟨⟨v9, rfl⟩, hb9⟩
                  have HB9 := Lib.hid (HB6.out.2.trans (hb9.mono HB6.out.le))
                  clear hb9
                  go_wp2_with fail
                  go_ret2
                  exact ⟨by rw [HE.out]; exact ⟨_, rfl⟩, HB9.out⟩
                | some d =>
                  rw [hx] at hcase
                  obtain ⟨g, cap, rfl, g0, g1⟩ := hcase
                  have hd := hx4_lt hx
                  have HS := Lib.hid (show runP s f (i + wd + wd2 + 4 + 2 + 4) (l ++ Lib.encodeRune (pairR n d : Nat)) = runP s s.size 0 [] by rw [HQ4.out, hx]; rfl)
                  clear HQ4 hx
                  obtain ⟨hi2, hhi⟩ : ∃ hi, hi = d / 256 := ⟨_, rfl⟩
                  obtain ⟨lo2, hlo⟩ : ∃ lo, lo = d % 256 := ⟨_, rfl⟩
                  rw [← hhi] at g0
                  rw [← hlo] at g1
                  have hhi3 : hi2 < 256 := by omega
                  have hlo3 : lo2 < 256 := by omega
                  have hsum : (hi2 : Int) * 256 + (lo2 : Int) = (d : Int) := by omega
                  have m1 : IntKind.i64.wrap ((hi2 : Int) * 256) = (hi2 : Int) * 256 := IntWalk.i64_in _ (by omega)
                  have m2 : IntKind.i64.wrap ((hi2 : Int) * 256 + (lo2 : Int)) = (d : Int) := by rw [hsum]; exact IntWalk.i64_in _ (by omega)
                  have m3 : IntKind.i32.wrap (d : Int) = (d : Int) := by rw [IntKind.wrap_i32]; omega
                  clear hhi hlo hsum k0 k1 k2 k3 k4 k5
                  go_wp2_with fail
                  go_quiet ((fail))
                  have HB7 := Lib.hid (show Buf w (w6.drewN nq) l from ⟨HB6.out.1.drewN nq, below_drewB HB6.out.2 nq⟩)
                  clear g0 g1 m1 m2 m3 HB6
                  generalize w6.drewN nq = w7 at *
                  have hpr : pairR n d ≤ 1114111 := by
                    have := HSU.out
                    unfold pairR
                    split <;> omega
                  go_wp2_with fail
                  refine (pair_any n d HSU.out hd _).mono ?_
                  rintro e8 w8 ⟨rfl, rfl⟩
                  generalize pairR n d = pr at *
                  go_wp2_with fail
                  refine (put_rune w w7 l _ HB7.out (by omega) (by omega) (by omega)).mono ?_
                  rintro e9 w9 ⟨⟨m, rfl⟩, hb9⟩
                  have HB9 := Lib.hid hb9
                  have hel := enc_le (pr : Int)
                  clear hb9
                  go_wp2_with fail
                  go_roundw
                  case rel => exact ⟨i + wd + wd2 + 4 + 2 + 4, f, _, by go_num, HS, HB9, by omega, by omega, by rw [List.length_append]; omega⟩
                  case measure => simp [intOf]; omega
            · have HNO := Lib.hid (show n < 55296 ∨ 57344 ≤ n by omega)
              have HS := Lib.hid (show runP s f (i + wd + wd2 + 4) (l ++ Lib.encodeRune (n : Nat)) = runP s s.size 0 [] by
                rw [HQ2.out]
                unfold stepC
                rw [if_neg hsur]
                rfl)
              clear HQ2 hsur
              go_wp2_with fail
              refine (isSurr_no n HNO.out _).mono ?_
              rintro e5 w5 ⟨rfl, rfl⟩
              go_wp2_with fail
              refine (put_rune w w4 l _ HB4.out (by omega) (by omega) (by omega)).mono ?_
              rintro e6 w6 ⟨⟨m, rfl⟩, hb6⟩
              have HB6 := Lib.hid hb6
              have hel := enc_le (n : Int)
              clear hb6
              go_wp2_with fail
              go_roundw
              case rel => exact ⟨i + wd + wd2 + 4, f, _, by go_num, HS, HB6, by omega, by omega, by rw [List.length_append]; omega⟩
              case measure => simp [intOf]; omega
        by_cases c4 : r2 = 34 ∨ r2 = 39 ∨ r2 = 92 ∨ r2 = 47 ∨ r2 = 98 ∨ r2 = 102 ∨ r2 = 110 ∨ r2 = 114 ∨ r2 = 116
        · rcases c4 with rfl | rfl | rfl | rfl | rfl | rfl | rfl | rfl | rfl
          · have HS := Lib.hid (show runP s f (i + wd + wd2) (l ++ Lib.encodeRune (34 : Nat)) = runP s s.size 0 [] by rw [HQ.out]; unfold stepB; rw [if_neg c3]; rfl)
            clear c3 HQ
            go_wp2_with fail
            refine (put_rune w w2 l 34 HB2.out (by omega) (by omega) (by omega)).mono ?_
            rintro e3 w3 ⟨⟨n, rfl⟩, hb3⟩
            have HB3 := Lib.hid hb3
            have hel := enc_le ((34 : Nat) : Int)
            clear hb3
            go_wp2_with fail
            go_roundw
            case rel => exact ⟨i + wd + wd2, f, _, by go_num, HS, HB3, by omega, by omega, by rw [List.length_append]; omega⟩
            case measure => simp [intOf]; omega
          · have HS := Lib.hid (show runP s f (i + wd + wd2) (l ++ Lib.encodeRune (39 : Nat)) = runP s s.size 0 [] by rw [HQ.out]; unfold stepB; rw [if_neg c3]; rfl)
            clear c3 HQ
            go_wp2_with fail
            refine (put_rune w w2 l 39 HB2.out (by omega) (by omega) (by omega)).mono ?_
            rintro e3 w3 ⟨⟨n, rfl⟩, hb3⟩
            have HB3 := Lib.hid hb3
            have hel := enc_le ((39 : Nat) : Int)
            clear hb3
            go_wp2_with fail
            go_roundw
            case rel => exact ⟨i + wd + wd2, f, _, by go_num, HS, HB3, by omega, by omega, by rw [List.length_append]; omega⟩
            case measure => simp [intOf]; omega
          · have HS := Lib.hid (show runP s f (i + wd + wd2) (l ++ Lib.encodeRune (92 : Nat)) = runP s s.size 0 [] by rw [HQ.out]; unfold stepB; rw [if_neg c3]; rfl)
            clear c3 HQ
            go_wp2_with fail
            refine (put_rune w w2 l 92 HB2.out (by omega) (by omega) (by omega)).mono ?_
            rintro e3 w3 ⟨⟨n, rfl⟩, hb3⟩
            have HB3 := Lib.hid hb3
            have hel := enc_le ((92 : Nat) : Int)
            clear hb3
            go_wp2_with fail
            go_roundw
            case rel => exact ⟨i + wd + wd2, f, _, by go_num, HS, HB3, by omega, by omega, by rw [List.length_append]; omega⟩
            case measure => simp [intOf]; omega
          · have HS := Lib.hid (show runP s f (i + wd + wd2) (l ++ Lib.encodeRune (47 : Nat)) = runP s s.size 0 [] by rw [HQ.out]; unfold stepB; rw [if_neg c3]; rfl)
            clear c3 HQ
            go_wp2_with fail
            refine (put_rune w w2 l 47 HB2.out (by omega) (by omega) (by omega)).mono ?_
            rintro e3 w3 ⟨⟨n, rfl⟩, hb3⟩
            have HB3 := Lib.hid hb3
            have hel := enc_le ((47 : Nat) : Int)
            clear hb3
            go_wp2_with fail
            go_roundw
            case rel => exact ⟨i + wd + wd2, f, _, by go_num, HS, HB3, by omega, by omega, by rw [List.length_append]; omega⟩
            case measure => simp [intOf]; omega
          · have HS := Lib.hid (show runP s f (i + wd + wd2) (l ++ Lib.encodeRune (8 : Nat)) = runP s s.size 0 [] by rw [HQ.out]; unfold stepB; rw [if_neg c3]; rfl)
            clear c3 HQ
            go_wp2_with fail
            refine (put_rune w w2 l 8 HB2.out (by omega) (by omega) (by omega)).mono ?_
            rintro e3 w3 ⟨⟨n, rfl⟩, hb3⟩
            have HB3 := Lib.hid hb3
            have hel := enc_le ((8 : Nat) : Int)
            clear hb3
            go_wp2_with fail
            go_roundw
            case rel => exact ⟨i + wd + wd2, f, _, by go_num, HS, HB3, by omega, by omega, by rw [List.length_append]; omega⟩
            case measure => simp [intOf]; omega
          · have HS := Lib.hid (show runP s f (i + wd + wd2) (l ++ Lib.encodeRune (12 : Nat)) = runP s s.size 0 [] by rw [HQ.out]; unfold stepB; rw [if_neg c3]; rfl)
            clear c3 HQ
            go_wp2_with fail
            refine (put_rune w w2 l 12 HB2.out (by omega) (by omega) (by omega)).mono ?_
            rintro e3 w3 ⟨⟨n, rfl⟩, hb3⟩
            have HB3 := Lib.hid hb3
            have hel := enc_le ((12 : Nat) : Int)
            clear hb3
            go_wp2_with fail
            go_roundw
            case rel => exact ⟨i + wd + wd2, f, _, by go_num, HS, HB3, by omega, by omega, by rw [List.length_append]; omega⟩
            case measure => simp [intOf]; omega
          · have HS := Lib.hid (show runP s f (i + wd + wd2) (l ++ Lib.encodeRune (10 : Nat)) = runP s s.size 0 [] by rw [HQ.out]; unfold stepB; rw [if_neg c3]; rfl)
            clear c3 HQ
            go_wp2_with fail
            refine (put_rune w w2 l 10 HB2.out (by omega) (by omega) (by omega)).mono ?_
            rintro e3 w3 ⟨⟨n, rfl⟩, hb3⟩
            have HB3 := Lib.hid hb3
            have hel := enc_le ((10 : Nat) : Int)
            clear hb3
            go_wp2_with fail
            go_roundw
            case rel => exact ⟨i + wd + wd2, f, _, by go_num, HS, HB3, by omega, by omega, by rw [List.length_append]; omega⟩
            case measure => simp [intOf]; omega
          · have HS := Lib.hid (show runP s f (i + wd + wd2) (l ++ Lib.encodeRune (13 : Nat)) = runP s s.size 0 [] by rw [HQ.out]; unfold stepB; rw [if_neg c3]; rfl)
            clear c3 HQ
            go_wp2_with fail
            refine (put_rune w w2 l 13 HB2.out (by omega) (by omega) (by omega)).mono ?_
            rintro e3 w3 ⟨⟨n, rfl⟩, hb3⟩
            have HB3 := Lib.hid hb3
            have hel := enc_le ((13 : Nat) : Int)
            clear hb3
            go_wp2_with fail
            go_roundw
            case rel => exact ⟨i + wd + wd2, f, _, by go_num, HS, HB3, by omega, by omega, by rw [List.length_append]; omega⟩
            case measure => simp [intOf]; omega
          · have HS := Lib.hid (show runP s f (i + wd + wd2) (l ++ Lib.encodeRune (9 : Nat)) = runP s s.size 0 [] by rw [HQ.out]; unfold stepB; rw [if_neg c3]; rfl)
            clear c3 HQ
            go_wp2_with fail
            refine (put_rune w w2 l 9 HB2.out (by omega) (by omega) (by omega)).mono ?_
            rintro e3 w3 ⟨⟨n, rfl⟩, hb3⟩
            have HB3 := Lib.hid hb3
            have hel := enc_le ((9 : Nat) : Int)
            clear hb3
            go_wp2_with fail
            go_roundw
            case rel => exact ⟨i + wd + wd2, f, _, by go_num, HS, HB3, by omega, by omega, by rw [List.length_append]; omega⟩
            case measure => simp [intOf]; omega
        · have HE := Lib.hid (show runP s s.size 0 [] = none by
            rw [HQ.out]
            unfold stepB
            rw [if_neg c3, show escS r2 = none by
              unfold escS
              repeat' split
              all_goals first | rfl | omega]
            rfl)
          have q0 : ((r2 : Int) == 34) = false := by simp; omega
          have q1 : ((r2 : Int) == 39) = false := by simp; omega
          have q2 : ((r2 : Int) == 92) = false := by simp; omega
          have q3 : ((r2 : Int) == 47) = false := by simp; omega
          have q4 : ((r2 : Int) == 98) = false := by simp; omega
          have q5 : ((r2 : Int) == 102) = false := by simp; omega
          have q6 : ((r2 : Int) == 110) = false := by simp; omega
          have q7 : ((r2 : Int) == 114) = false := by simp; omega
          have q8 : ((r2 : Int) == 116) = false := by simp; omega
          have q9 : ((r2 : Int) == 117) = false := by simp; omega
          clear c3 c4 HQ
          go_wp2_with fail
          refine (makeErr_any _ _ _ _ _ _ _ _).mono ?_
          rintro e9 w9 ⟨⟨v9, rfl⟩, hb9⟩
          have HB9 := Lib.hid (HB2.out.2.trans (hb9.mono HB2.out.le))
          clear hb9
          go_wp2_with fail
          go_ret2
          exact ⟨by rw [HE.out]; exact ⟨_, rfl⟩, HB9.out⟩
      · have q1 : ((rn : Int) == 92) = false := by simp; omega
        have HS := Lib.hid (show runP s f (i + wd) (l ++ Lib.encodeRune (rn : Nat)) = runP s s.size 0 [] by
          rw [← HR.out]
          conv => rhs; rw [runP, if_pos hlt]
          unfold stepP
          rw [HRN.out, HWD.out, if_neg c1])
        go_wp2_with fail
        refine (put_rune w w1 l _ HB1.out (by omega) (by omega) (by omega)).mono ?_
        rintro e2 w2 ⟨⟨n, rfl⟩, hb2⟩
        have HB2 := Lib.hid hb2
        have hel := enc_le (rn : Int)
        clear hb2
        go_wp2_with fail
        go_roundw
        case rel => exact ⟨i + wd, f, _, by go_num, HS, HB2, by omega, by omega, by rw [List.length_append]; omega⟩
        case measure => simp [intOf]; omega
    · have HE := Lib.hid (show runP s s.size 0 [] = some l by
        rw [← HR.out]
        cases fuel with
        | zero => rfl
        | succ f => rw [runP, if_neg hlt])
      go_wp2_with fail
      refine (take_str w wr l HB.out).mono ?_
      rintro e1 w1 ⟨rfl, hb1⟩
      have HB1 := Lib.hid hb1
      clear hb1
      go_wp2_with fail
      go_ret2
      exact ⟨by rw [HE.out]; rfl, HB1.out⟩
end Go.Proofs.YtpgmnggicmbacaaGreatDoor
