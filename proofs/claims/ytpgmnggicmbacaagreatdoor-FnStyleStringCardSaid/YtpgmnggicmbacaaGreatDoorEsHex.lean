/-
  spec's hexadecimal, starts, unicode, escape.
-/
import Derived.Test.YtpgmnggicmbacaaGreatDoorEsP
import Derived.Test.YtpgmnggicmbacaaGreatDoorProg
import Derived.Test.YtpgmnggicmbacaaGreatDoorWords
import Derived.IntWalk
import Derived.WalkKit
import Derived.BigCall
namespace Go.Proofs.YtpgmnggicmbacaaGreatDoor
open Go.RowKit

set_option maxRecDepth 100000 in
theorem isDigit_any (c : Nat) (w : World) : Calls Tryz.prog 25 #[.int .u8 c] w fun e w' => e = .returned (.bool (decide (48 ≤ c) && decide (c ≤ 57))) ∧ w = w' := by
  by_cases h1 : 48 ≤ c <;> by_cases h2 : c ≤ 57
  all_goals first
    | (exfalso; omega)
    | (go_enter Tryz.func25, Tryz.ntmps25
       go_wp2
       go_ret
       simp [h1, h2]
       try omega)
theorem digit_yes (c : Nat) (h1 : 48 ≤ c) (h2 : c ≤ 57) (w : World) : Calls Tryz.prog 25 #[.int .u8 c] w fun e w' => e = .returned (.bool true) ∧ w = w' := by
  have := isDigit_any c w
  simpa [h1, h2] using this
theorem digit_no (c : Nat) (h1 : c < 48 ∨ 57 < c) (w : World) : Calls Tryz.prog 25 #[.int .u8 c] w fun e w' => e = .returned (.bool false) ∧ w = w' := by
  have := isDigit_any c w
  rwa [show (decide (48 ≤ c) && decide (c ≤ 57)) = false by simp; omega] at this
/-- What hexadecimal answers. -/
def HxPost (s : ByteArray) (i : Nat) (w : World) (e : Ending) (w' : World) : Prop := (∃ n : Int, e = .returned (.int .i64 n) ∧ (match hx4 s i with | none => n = -1 | some a => n = (a : Int))) ∧ w = w'

set_option maxRecDepth 100000 in
set_option maxHeartbeats 3200000 in
theorem hexadecimal_any (s : ByteArray) (i : Nat) (hs : s.size ≤ 1000000000) (hi : i ≤ s.size + 100) (w : World) :
    Calls Tryz.prog 14 #[.string s, .int .i64 i] w (HxPost s i w) := by
  by_cases hn : s.size < i + 4
  · have H := Lib.hid (show hx4 s i = none by unfold hx4; rw [if_neg (by omega)])
    go_enter Tryz.func14, Tryz.ntmps14
    go_wp2_with fail
    go_ret
    exact ⟨⟨-1, rfl, by rw [H.out]⟩, rfl⟩
  · have H := Lib.hid (show hx4 s i = hxk s i 4 by unfold hx4; rw [if_pos (by omega)])
    go_enter Tryz.func14, Tryz.ntmps14
    go_wp2_with fail
    go_loop [5, 6] (fun n t => ∃ k a : Nat, k ≤ 4 ∧ t = .int .i64 ((i + k : Nat) : Int) ∧ n = .int .i64 (a : Int) ∧ Hid (hxk s i k = some a) ∧ a < 65536) (fun _ t => i + 4 - (intOf t).toNat)
    case atStart => exact ⟨0, 0, by omega, by simp, rfl, Lib.hid rfl, by omega⟩
    case round =>
      obtain ⟨k, a, hk, rfl, rfl, HA, ha⟩ := hrel
      by_cases hlt : k < 4
      · have hik : i + k < s.size := by omega
        have hd := by_eq hik
        have hd0 : (s[i + k]'hik).toNat < 256 := by rw [hd]; exact by_lt s (i + k)
        have HD := Lib.hid hd
        have hpw : a < 4096 := by
          have h1 := hxk_lt HA.out
          have h2 : (16 : Nat) ^ k ≤ 16 ^ 3 := Nat.pow_le_pow_right (by omega) (by omega)
          have h3 : (16 : Nat) ^ 3 = 4096 := by decide
          omega
        clear hd
        by_cases c1 : 48 ≤ (s[i + k]'hik).toNat ∧ (s[i + k]'hik).toNat ≤ 57
        · obtain ⟨c1, c2⟩ := c1
          go_wp2_with (go_at_call 25; refine (digit_yes _ (by omega) (by omega) _).mono ?_; rintro e2 w2 ⟨rfl, rfl⟩)
          go_round
          case rel => exact ⟨k + 1, 16 * a + ((s[i + k]'hik).toNat - 48), by omega, by go_num, by congr 1; omega, Lib.hid (by
            rw [hxk, HA.out, ← HD.out]
            unfold hexV
            rw [if_pos ⟨c1, c2⟩]
            rfl), by omega⟩
          case measure => simp [intOf]; omega
        by_cases c2 : 97 ≤ (s[i + k]'hik).toNat ∧ (s[i + k]'hik).toNat ≤ 102
        · obtain ⟨c3, c4⟩ := c2
          go_wp2_with (go_at_call 25; refine (digit_no _ (by omega) _).mono ?_; rintro e2 w2 ⟨rfl, rfl⟩)
          go_round
          case rel => exact ⟨k + 1, 16 * a + ((s[i + k]'hik).toNat - 87), by omega, by go_num, by congr 1; omega, Lib.hid (by
            rw [hxk, HA.out, ← HD.out]
            unfold hexV
            rw [if_neg c1, if_pos ⟨c3, c4⟩]
            rfl), by omega⟩
          case measure => simp [intOf]; omega
        by_cases c3 : 65 ≤ (s[i + k]'hik).toNat ∧ (s[i + k]'hik).toNat ≤ 70
        · obtain ⟨c4, c5⟩ := c3
          go_wp2_with (go_at_call 25; refine (digit_no _ (by omega) _).mono ?_; rintro e2 w2 ⟨rfl, rfl⟩)
          go_round
          case rel => exact ⟨k + 1, 16 * a + ((s[i + k]'hik).toNat - 55), by omega, by go_num, by congr 1; omega, Lib.hid (by
            rw [hxk, HA.out, ← HD.out]
            unfold hexV
            rw [if_neg c1, if_neg c2, if_pos ⟨c4, c5⟩]
            rfl), by omega⟩
          case measure => simp [intOf]; omega
        have HN := Lib.hid (show hx4 s i = none by
          rw [H.out]
          refine hxk_none (k := k + 1) ?_ (by omega)
          rw [hxk, HA.out, ← HD.out]
          unfold hexV
          rw [if_neg c1, if_neg c2, if_neg c3]
          rfl)
        have hno : (s[i + k]'hik).toNat < 48 ∨ 57 < (s[i + k]'hik).toNat := by omega
        by_cases d1 : 97 ≤ (s[i + k]'hik).toNat
        all_goals by_cases d2 : 65 ≤ (s[i + k]'hik).toNat
        all_goals first
          | (exfalso; omega)
          | (go_wp2_with (go_at_call 25; refine (digit_no _ hno _).mono ?_; rintro e2 w2 ⟨rfl, rfl⟩)
             all_goals
               go_ret
               exact ⟨⟨-1, rfl, by rw [HN.out]⟩, rfl⟩)
      · obtain rfl : k = 4 := by omega
        go_wp2_with fail
        go_ret
        exact ⟨⟨(a : Int), rfl, by rw [H.out, HA.out]⟩, rfl⟩
theorem cut_list (s : ByteArray) (i n : Nat) (h : i + n ≤ s.size) : (s.extract i (i + n)).data.toList = (List.range n).map fun k => UInt8.ofNat (by_ s (i + k)) := by
  apply List.ext_getElem?
  intro k
  have hd : (s.extract i (i + n)).data = s.data.extract i (i + n) := by simp [ByteArray.data_extract]
  rw [hd, Array.getElem?_toList, Array.getElem?_extract]
  have hsz : s.size = s.data.size := rfl
  by_cases hk : k < n
  · rw [if_pos (by omega), List.getElem?_map, List.getElem?_range hk, Array.getElem?_eq_getElem (by omega)]
    simp only [Option.map_some, Option.some.injEq]
    rw [← by_eq (show i + k < s.size by omega)]
    show s.data[i + k] = UInt8.ofNat (s.data[i + k]).toNat
    simp
  · rw [if_neg (by omega), List.getElem?_eq_none (by simp; omega)]
theorem by_bytes (s : ByteArray) (i n : Nat) (h : i + n ≤ s.size) : (s.extract i (i + n)).toList = (List.range n).map fun k => UInt8.ofNat (by_ s (i + k)) := by
  rw [← cut_list s i n h]
  exact ByteArray.toList_eq _
theorem u8_beq {n c : Nat} (h : n < 256) (hc : c < 256) : (UInt8.ofNat n == UInt8.ofNat c) = (n == c) := by
  rw [Bool.eq_iff_iff]
  simp only [beq_iff_eq]
  constructor
  · intro e
    have := congrArg UInt8.toNat e
    rw [UInt8.toNat_ofNat', UInt8.toNat_ofNat'] at this
    omega
  · intro e
    rw [e]
theorem str_two (s : ByteArray) (i : Nat) (h : i + 2 ≤ s.size) : ((s.extract i (i + 2)).toList == [92, 117]) = startsU s i := by
  rw [by_bytes s i 2 h]
  unfold startsU
  rw [show decide (i + 2 ≤ s.size) = true by simpa using h]
  show ([UInt8.ofNat (by_ s (i + 0)), UInt8.ofNat (by_ s (i + 1))] == [UInt8.ofNat 92, UInt8.ofNat 117]) = _
  simp only [List.cons_beq_cons, Bool.true_and, Nat.add_zero, u8_beq (by_lt s i) (show 92 < 256 by omega), u8_beq (by_lt s (i + 1)) (show 117 < 256 by omega)]
  rw [show (([] : List UInt8) == []) = true from rfl, Bool.and_true]
set_option maxRecDepth 100000 in
theorem starts_any (s : ByteArray) (i : Nat) (hs : s.size ≤ 1000000000) (hi : i ≤ s.size + 100) (w : World) :
    Calls Tryz.prog 15 #[.string s, .int .i64 i, .string ⟨#[92, 117]⟩] w fun e w' => e = .returned (.bool (startsU s i)) ∧ w = w' := by
  by_cases h : i + 2 ≤ s.size
  · have HS := Lib.hid (str_two s i h)
    go_enter Tryz.func15, Tryz.ntmps15
    go_wp2_with fail
    go_ret
    refine ⟨?_, rfl⟩
    rw [← HS.out]
    rfl
  · have HS := Lib.hid (show startsU s i = false by unfold startsU; simp [h])
    go_enter Tryz.func15, Tryz.ntmps15
    go_wp2_with fail
    go_ret
    refine ⟨?_, rfl⟩
    rw [HS.out]
    rfl
/-- What unicode answers. -/
def UnPost (s : ByteArray) (i : Nat) (w : World) (e : Ending) (w' : World) : Prop :=
  (∃ n m : Int, e = .returned (.tuple #[.int .i64 n, .int .i64 m]) ∧ (match uniF s i with | none => n < 0 | some (a, b) => n = (a : Int) ∧ m = (b : Int))) ∧ w = w'
set_option maxRecDepth 100000 in
set_option maxHeartbeats 1600000 in
theorem unicode_any (s : ByteArray) (i : Nat) (hs : s.size ≤ 1000000000) (hi : i ≤ s.size + 10) (w : World) :
    Calls Tryz.prog 9 #[.string s, .int .i64 i] w (UnPost s i w) := by
  go_enter Tryz.func9, Tryz.ntmps9
  go_wp2_with fail
  refine (hexadecimal_any s i hs (by omega) _).mono ?_
  rintro e1 w1 ⟨⟨n, rfl, hn⟩, rfl⟩
  cases h1 : hx4 s i with
  | none =>
    rw [h1] at hn
    obtain rfl : n = -1 := hn
    (try clear hn)
    have H := Lib.hid (show uniF s i = none by unfold uniF; rw [h1])
    clear h1
    go_wp2_with fail
    go_ret2
    exact ⟨⟨-1, 4, rfl, by rw [H.out]; decide⟩, rfl⟩
  | some a =>
    rw [h1] at hn
    obtain rfl : n = (a : Int) := hn
    have ha := hx4_lt h1
    (try clear hn)
    by_cases c1 : a < 55296
    · have H := Lib.hid (show uniF s i = some (a, 4) by unfold uniF; rw [h1]; simp only; rw [if_pos (by omega)])
      clear h1
      go_wp2_with fail
      go_ret2
      exact ⟨⟨a, 4, rfl, by rw [H.out]; exact ⟨rfl, rfl⟩⟩, rfl⟩
    have q1 : decide ((a : Int) < 55296) = false := by simp; omega
    by_cases c2 : 56320 ≤ a
    · have H := Lib.hid (show uniF s i = some (a, 4) by unfold uniF; rw [h1]; simp only; rw [if_pos (by omega)])
      clear h1
      have q2 : decide ((a : Int) ≥ 56320) = true := by simp; omega
      clear c1 c2
      go_wp2_with fail
      go_ret2
      exact ⟨⟨a, 4, rfl, by rw [H.out]; exact ⟨rfl, rfl⟩⟩, rfl⟩
    have q2 : decide ((a : Int) ≥ 56320) = false := by simp; omega
    have C1 := Lib.hid c1
    have C2 := Lib.hid c2
    have hi4 : i + 4 ≤ s.size := by
      unfold hx4 at h1
      split at h1
      · assumption
      · cases h1
    cases hu : startsU s (i + 4) with
    | false =>
      have H := Lib.hid (show uniF s i = some (a, 4) by unfold uniF; rw [h1]; simp only; rw [if_neg (by omega), if_pos hu])
      clear h1
      have HU := Lib.hid hu
      clear hu
      go_wp2_with fail
      refine (starts_any s (i + 4) hs (by omega) _).mono ?_
      rintro e2 w2 ⟨rfl, rfl⟩
      rw [HU.out]
      go_wp2_with fail
      go_ret2
      exact ⟨⟨a, 4, rfl, by rw [H.out]; exact ⟨rfl, rfl⟩⟩, rfl⟩
    | true =>
      have H1 := Lib.hid h1
      have HU := Lib.hid hu
      clear h1 hu
      go_wp2_with fail
      refine (starts_any s (i + 4) hs (by omega) _).mono ?_
      rintro e2 w2 ⟨rfl, rfl⟩
      rw [HU.out]
      go_wp2_with fail
      refine (hexadecimal_any s (i + 6) hs (by omega) _).mono ?_
      rintro e3 w3 ⟨⟨n, rfl, hn⟩, rfl⟩
      cases h2 : hx4 s (i + 6) with
      | none =>
        rw [h2] at hn
        obtain rfl : n = -1 := hn
        (try clear hn)
        have H := Lib.hid (show uniF s i = some (a, 4) by unfold uniF; rw [H1.out]; simp only; rw [if_neg (by omega), if_neg (by rw [HU.out]; decide), h2])
        clear h2
        go_wp2_with fail
        go_ret2
        exact ⟨⟨a, 4, rfl, by rw [H.out]; exact ⟨rfl, rfl⟩⟩, rfl⟩
      | some l =>
        rw [h2] at hn
        obtain rfl : n = (l : Int) := hn
        have hl := hx4_lt h2
        (try clear hn)
        have HG := Lib.hid (show uniF s i = if l < 56320 ∨ 57344 ≤ l then some (a, 4) else some (65536 + (a - 55296) * 1024 + (l - 56320), 10) by unfold uniF; rw [H1.out]; simp only; rw [if_neg (by omega), if_neg (by rw [HU.out]; decide), h2])
        clear h2
        by_cases c3 : l < 56320
        · have q3 : decide ((l : Int) < 56320) = true := by simp; omega
          have C3 := Lib.hid c3
          clear c3
          go_wp2_with fail
          go_ret2
          exact ⟨⟨a, 4, rfl, by rw [HG.out, if_pos (.inl C3.out)]; exact ⟨rfl, rfl⟩⟩, rfl⟩
        have q3 : decide ((l : Int) < 56320) = false := by simp; omega
        by_cases c4 : 57344 ≤ l
        · have q4 : decide ((l : Int) ≥ 57344) = true := by simp; omega
          have C4 := Lib.hid c4
          clear c3 c4
          go_wp2_with fail
          go_ret2
          exact ⟨⟨a, 4, rfl, by rw [HG.out, if_pos (.inr C4.out)]; exact ⟨rfl, rfl⟩⟩, rfl⟩
        have q4 : decide ((l : Int) ≥ 57344) = false := by simp; omega
        have C3 := Lib.hid c3
        have C4 := Lib.hid c4
        clear c3 c4
        go_wp2_with fail
        go_ret2
        refine ⟨⟨_, 10, rfl, ?_⟩, rfl⟩
        rw [HG.out, if_neg (by have := C3.out; have := C4.out; omega)]
        have := C1.out
        have := C2.out
        have := C3.out
        refine ⟨?_, rfl⟩
        omega
/-- What escape answers. -/
def EsPost (c : Nat) (w : World) (e : Ending) (w' : World) : Prop :=
  (∃ (n : Nat) (b : Bool), e = .returned (.tuple #[.int .u8 n, .bool b]) ∧ (match escS c with | none => b = false | some a => b = true ∧ n = a)) ∧ w = w'
set_option maxRecDepth 100000 in
set_option maxHeartbeats 1600000 in
theorem escape_any (c : Nat) (w : World) : Calls Tryz.prog 11 #[.int .u8 c] w (EsPost c w) := by
  by_cases h0 : c = 34 ∨ c = 39 ∨ c = 92 ∨ c = 47 ∨ c = 98 ∨ c = 102 ∨ c = 110 ∨ c = 114 ∨ c = 116
  · rcases h0 with rfl | rfl | rfl | rfl | rfl | rfl | rfl | rfl | rfl
    · go_enter Tryz.func11, Tryz.ntmps11
      go_wp2_with fail
      go_ret2
      exact ⟨⟨34, true, rfl, ⟨rfl, rfl⟩⟩, rfl⟩
    · go_enter Tryz.func11, Tryz.ntmps11
      go_wp2_with fail
      go_ret2
      exact ⟨⟨39, true, rfl, ⟨rfl, rfl⟩⟩, rfl⟩
    · go_enter Tryz.func11, Tryz.ntmps11
      go_wp2_with fail
      go_ret2
      exact ⟨⟨92, true, rfl, ⟨rfl, rfl⟩⟩, rfl⟩
    · go_enter Tryz.func11, Tryz.ntmps11
      go_wp2_with fail
      go_ret2
      exact ⟨⟨47, true, rfl, ⟨rfl, rfl⟩⟩, rfl⟩
    · go_enter Tryz.func11, Tryz.ntmps11
      go_wp2_with fail
      go_ret2
      exact ⟨⟨8, true, rfl, ⟨rfl, rfl⟩⟩, rfl⟩
    · go_enter Tryz.func11, Tryz.ntmps11
      go_wp2_with fail
      go_ret2
      exact ⟨⟨12, true, rfl, ⟨rfl, rfl⟩⟩, rfl⟩
    · go_enter Tryz.func11, Tryz.ntmps11
      go_wp2_with fail
      go_ret2
      exact ⟨⟨10, true, rfl, ⟨rfl, rfl⟩⟩, rfl⟩
    · go_enter Tryz.func11, Tryz.ntmps11
      go_wp2_with fail
      go_ret2
      exact ⟨⟨13, true, rfl, ⟨rfl, rfl⟩⟩, rfl⟩
    · go_enter Tryz.func11, Tryz.ntmps11
      go_wp2_with fail
      go_ret2
      exact ⟨⟨9, true, rfl, ⟨rfl, rfl⟩⟩, rfl⟩
  · have H := Lib.hid (show escS c = none by
      unfold escS
      repeat' split
      all_goals first | rfl | omega)
    have q0 : ((c : Int) == 34) = false := by simp; omega
    have q1 : ((c : Int) == 39) = false := by simp; omega
    have q2 : ((c : Int) == 92) = false := by simp; omega
    have q3 : ((c : Int) == 47) = false := by simp; omega
    have q4 : ((c : Int) == 98) = false := by simp; omega
    have q5 : ((c : Int) == 102) = false := by simp; omega
    have q6 : ((c : Int) == 110) = false := by simp; omega
    have q7 : ((c : Int) == 114) = false := by simp; omega
    have q8 : ((c : Int) == 116) = false := by simp; omega
    clear h0
    go_enter Tryz.func11, Tryz.ntmps11
    go_wp2_with fail
    go_ret2
    exact ⟨⟨0, false, rfl, by rw [H.out]⟩, rfl⟩
end Go.Proofs.YtpgmnggicmbacaaGreatDoor
