/-
  FnSymbolFirst: joined texts: Utf, Point, PointN, Readable, EncR, EsP, EsLaw, EsAgree, SsHas, EsHex, EsEnc, EsSpec.
-/
import Derived.Test.YtpgmnggicmbacaaDoorWords
import Derived.Test.YtpgmnggicmbacaaDoorProg
import Derived.WideShapes
import Derived.Laws.Cover4
import Derived.Lib.RuneBytes
import Derived.WalkKit
import Derived.BigCall
import Derived.IntWalk
import Derived.Laws.IdiomStrings
import Derived.Laws.BitsAllLaws
import Derived.Lib.AppendStr
import Derived.Lib.UnsafeStr
import Derived.Laws.OwnMore
namespace Go.Proofs.YtpgmnggicmbacaaDoor
open Go.RowKit
set_option linter.unusedVariables false
set_option linter.unusedSimpArgs false

def by_ (s : ByteArray) (i : Nat) : Nat := (s.get! i).toNat
theorem by_eq {s : ByteArray} {i : Nat} (h : i < s.size) : (s[i]'h).toNat = by_ s i := by
  unfold by_
  have : s.get! i = s[i] := by
    show s.data[i]! = s.data[i]
    exact getElem!_pos s.data i h
  rw [this]
theorem by_lt (s : ByteArray) (i : Nat) : by_ s i < 256 := UInt8.toNat_lt _

/-- What the bytes behind the first one make of it. -/
def accf (s : ByteArray) (i r0 : Nat) : Nat → Nat
  | 0 => r0
  | 1 => r0
  | k + 2 => accf s i r0 (k + 1) * 64 + (by_ s (i + (k + 1)) - 128)
def Cont (s : ByteArray) (i k : Nat) : Prop := ∀ j, 1 ≤ j → j < k → i + j < s.size ∧ 128 ≤ by_ s (i + j) ∧ by_ s (i + j) < 192

def PtOk (s : ByteArray) (i r n : Nat) : Prop := 0 < n ∧ i + n ≤ s.size ∧ Utf8.decode s i = (r, n) ∧ r ≤ 1114111 ∧ (n = 1 → r < 128)

theorem decode1 {s : ByteArray} {i : Nat} (hi : i < s.size) (h : by_ s i < 128) : PtOk s i (by_ s i) 1 := by
  refine ⟨by omega, by omega, ?_, by omega, fun _ => h⟩
  unfold Utf8.decode
  simp only [Nat.add_zero]
  show (if by_ s i < 0x80 then _ else _) = _
  rw [if_pos h]; rfl
theorem accf2 (s : ByteArray) (i r0 : Nat) : accf s i r0 2 = r0 * 64 + (by_ s (i + 1) - 128) := rfl
theorem accf3 (s : ByteArray) (i r0 : Nat) : accf s i r0 3 = (r0 * 64 + (by_ s (i + 1) - 128)) * 64 + (by_ s (i + 2) - 128) := rfl
theorem accf4 (s : ByteArray) (i r0 : Nat) : accf s i r0 4 = ((r0 * 64 + (by_ s (i + 1) - 128)) * 64 + (by_ s (i + 2) - 128)) * 64 + (by_ s (i + 3) - 128) := rfl
theorem decodeN {s : ByteArray} {i : Nat} (n base least : Nat) (hc : n = 2 ∧ base = 192 ∧ least = 128 ∧ 192 ≤ by_ s i ∧ by_ s i < 224 ∨ n = 3 ∧ base = 224 ∧ least = 2048 ∧ 224 ≤ by_ s i ∧ by_ s i < 240 ∨ n = 4 ∧ base = 240 ∧ least = 65536 ∧ 240 ≤ by_ s i ∧ by_ s i < 248)
    (hn : i + n ≤ s.size) (hcont : Cont s i n) (r : Nat) (hr : r = accf s i (by_ s i - base) n) (h1 : least ≤ r) (h2 : r ≤ 1114111) (h3 : ¬ (55296 ≤ r ∧ r < 57344)) : PtOk s i r n := by
  refine ⟨by omega, hn, ?_, h2, by omega⟩
  unfold Utf8.decode
  simp only [Nat.add_zero]
  show (if by_ s i < 0x80 then (by_ s i, 1) else
    if (by_ s i / 32 == 6 && (decide (i + 1 < s.size) && by_ s (i + 1) / 64 == 2)) = true then
      if by_ s i % 32 * 64 + by_ s (i + 1) % 64 ≥ 0x80 then (by_ s i % 32 * 64 + by_ s (i + 1) % 64, 2) else (Utf8.runeError, 1)
    else if (by_ s i / 16 == 14 && (decide (i + 1 < s.size) && by_ s (i + 1) / 64 == 2) && (decide (i + 2 < s.size) && by_ s (i + 2) / 64 == 2)) = true then
      if (decide (by_ s i % 16 * 4096 + by_ s (i + 1) % 64 * 64 + by_ s (i + 2) % 64 ≥ 0x800) && Utf8.valid (by_ s i % 16 * 4096 + by_ s (i + 1) % 64 * 64 + by_ s (i + 2) % 64 : Nat)) = true then (by_ s i % 16 * 4096 + by_ s (i + 1) % 64 * 64 + by_ s (i + 2) % 64, 3) else (Utf8.runeError, 1)
    else if (by_ s i / 8 == 30 && (decide (i + 1 < s.size) && by_ s (i + 1) / 64 == 2) && (decide (i + 2 < s.size) && by_ s (i + 2) / 64 == 2) && (decide (i + 3 < s.size) && by_ s (i + 3) / 64 == 2)) = true then
      if (decide (by_ s i % 8 * 262144 + by_ s (i + 1) % 64 * 4096 + by_ s (i + 2) % 64 * 64 + by_ s (i + 3) % 64 ≥ 0x10000) && Utf8.valid (by_ s i % 8 * 262144 + by_ s (i + 1) % 64 * 4096 + by_ s (i + 2) % 64 * 64 + by_ s (i + 3) % 64 : Nat)) = true then (by_ s i % 8 * 262144 + by_ s (i + 1) % 64 * 4096 + by_ s (i + 2) % 64 * 64 + by_ s (i + 3) % 64, 4) else (Utf8.runeError, 1)
    else (Utf8.runeError, 1)) = (r, n)
  have hv : Utf8.valid (r : Nat) = true := by
    simp [Utf8.valid]; omega
  rcases hc with ⟨rfl, rfl, rfl, c1, c2⟩ | ⟨rfl, rfl, rfl, c1, c2⟩ | ⟨rfl, rfl, rfl, c1, c2⟩
  · obtain ⟨k1, k2, k3⟩ := hcont 1 (by omega) (by omega)
    have e : by_ s i % 32 * 64 + by_ s (i + 1) % 64 = r := by rw [hr, accf2]; omega
    rw [if_neg (by omega), if_pos (by simp; omega), e, if_pos h1]
  · obtain ⟨k1, k2, k3⟩ := hcont 1 (by omega) (by omega)
    obtain ⟨l1, l2, l3⟩ := hcont 2 (by omega) (by omega)
    have e : by_ s i % 16 * 4096 + by_ s (i + 1) % 64 * 64 + by_ s (i + 2) % 64 = r := by rw [hr, accf3]; omega
    rw [if_neg (by omega), if_neg (by simp; omega), if_pos (by simp; omega), e, if_pos (by rw [hv]; simp; exact h1)]
  · obtain ⟨k1, k2, k3⟩ := hcont 1 (by omega) (by omega)
    obtain ⟨l1, l2, l3⟩ := hcont 2 (by omega) (by omega)
    obtain ⟨m1, m2, m3⟩ := hcont 3 (by omega) (by omega)
    have e : by_ s i % 8 * 262144 + by_ s (i + 1) % 64 * 4096 + by_ s (i + 2) % 64 * 64 + by_ s (i + 3) % 64 = r := by rw [hr, accf4]; omega
    rw [if_neg (by omega), if_neg (by simp; omega), if_neg (by simp; omega), if_pos (by simp; omega), e, if_pos (by rw [hv]; simp; exact h1)]
end Go.Proofs.YtpgmnggicmbacaaDoor
namespace Go.Proofs.YtpgmnggicmbacaaDoor
open Go.RowKit
set_option linter.unusedVariables false
set_option linter.unusedSimpArgs false

/-- What point answers: no code point, or the one that the language reads there. -/
def PtRes (s : ByteArray) (i : Nat) (w : World) (e : Ending) (w' : World) : Prop :=
  (∃ r n : Nat, e = .returned (.tuple #[.int .i64 r, .int .i64 n]) ∧ (n = 0 ∨ PtOk s i r n)) ∧ w = w'

theorem accf_step (s : ByteArray) (i r0 k : Nat) (hk : 1 ≤ k) : accf s i r0 (k + 1) = accf s i r0 k * 64 + (by_ s (i + k) - 128) := by
  obtain ⟨m, rfl⟩ : ∃ m, k = m + 1 := ⟨k - 1, by omega⟩
  rfl

set_option maxRecDepth 100000 in
set_option maxHeartbeats 1600000 in
theorem point_one (s : ByteArray) (i : Nat) (hi : i < s.size) (_hs : s.size ≤ 2147483647) (w : World) (hc : by_ s i < 128) :
    Calls Tryd.prog 19 #[.string s, .int .i64 i] w fun e w' => PtRes s i w e w' := by
  have hb := by_eq hi
  have h2 : (s[i]'hi).toNat < 128 := by rw [hb]; exact hc
  have HB := Lib.hid hb
  have HC := Lib.hid hc
  clear hb hc
  go_enter Tryd.func19, Tryd.ntmps19
  go_wp2
  go_ret2
  exact ⟨⟨(s[i]'hi).toNat, 1, rfl, .inr (by rw [HB.out]; exact decode1 hi HC.out)⟩, rfl⟩

set_option maxRecDepth 100000 in
set_option maxHeartbeats 1600000 in
theorem point_bad (s : ByteArray) (i : Nat) (hi : i < s.size) (_hs : s.size ≤ 2147483647) (w : World) (hc : 128 ≤ by_ s i ∧ by_ s i < 192 ∨ 248 ≤ by_ s i) :
    Calls Tryd.prog 19 #[.string s, .int .i64 i] w fun e w' => PtRes s i w e w' := by
  have hb := by_eq hi
  have h0 : (s[i]'hi).toNat < 256 := by rw [hb]; exact by_lt s i
  rw [← hb] at hc
  clear hb
  rcases hc with ⟨h1, h2⟩ | h1
  all_goals
    go_enter Tryd.func19, Tryd.ntmps19
    go_wp2
    go_ret2
    exact ⟨⟨0, 0, rfl, .inl rfl⟩, rfl⟩

end Go.Proofs.YtpgmnggicmbacaaDoor
namespace Go.Proofs.YtpgmnggicmbacaaDoor
open Go.RowKit
set_option linter.unusedVariables false
set_option linter.unusedSimpArgs false

set_option maxRecDepth 100000 in
set_option maxHeartbeats 3200000 in
theorem point_two (s : ByteArray) (i : Nat) (hi : i < s.size) (hs : s.size ≤ 2147483647) (w : World) (h1 : 192 ≤ by_ s i) (h2 : by_ s i < 224) :
    Calls Tryd.prog 19 #[.string s, .int .i64 i] w fun e w' => PtRes s i w e w' := by
  have hb := by_eq hi
  have HB := Lib.hid hb
  have H1 := Lib.hid h1
  have H2 := Lib.hid h2
  have g1 : 192 ≤ (s[i]'hi).toNat := by rw [hb]; exact h1
  have g2 : (s[i]'hi).toNat < 224 := by rw [hb]; exact h2
  clear hb h1 h2
  by_cases hn : s.size < i + 2
  · go_enter Tryd.func19, Tryd.ntmps19
    go_wp2
    go_ret2
    exact ⟨⟨0, 0, rfl, .inl rfl⟩, rfl⟩
  · have q0 : decide ((s.size : Int) - (i : Int) < 2) = false := by simp; omega
    have ql128 : decide (((s[i]'hi).toNat : Int) < 128) = false := by simp; omega
    have ql224 : decide (((s[i]'hi).toNat : Int) < 224) = true := by simp; omega
    have qg192 : decide ((192 : Int) ≤ ((s[i]'hi).toNat : Int)) = true := by simp; omega
    go_enter Tryd.func19, Tryd.ntmps19
    go_wp2
    go_loop [4, 5, 8] (fun rv nv kv => ∃ (k a : Nat), 1 ≤ k ∧ k ≤ 2 ∧ nv = .int .i64 2 ∧ kv = .int .i64 k ∧ rv = .int .i64 a ∧ Hid (a = accf s i (by_ s i - 192) k) ∧ Hid (Cont s i k) ∧ Hid (a < 64 ^ k)) (fun _ _ kv => 2 - (intOf kv).toNat)
    case atStart => exact ⟨1, by_ s i - 192, by omega, by omega, rfl, rfl, by rw [HB.out]; have := H1.out; congr 1; omega, rfl, fun j h3 h4 => by omega, by have := H1.out; have := H2.out; show _ < 64 ^ 1; omega⟩
    case round =>
      obtain ⟨k, a, k1, k2, rfl, rfl, rfl, HA, HC, HL⟩ := hrel
      by_cases hk : k < 2
      · have hik : i + k < s.size := by omega
        have hd := by_eq hik
        have hd0 : (s[i + k]'hik).toNat < 256 := by rw [hd]; exact by_lt s (i + k)
        have HD := Lib.hid hd
        have ha : a < 262144 := by
          have h3 := HL.out
          have h4 : (64 : Nat) ^ k ≤ 64 ^ 3 := Nat.pow_le_pow_right (by omega) (by omega)
          have h5 : (64 : Nat) ^ 3 = 262144 := by decide
          omega
        clear hd
        by_cases d1 : (s[i + k]'hik).toNat < 128
        · go_wp2
          go_ret2
          exact ⟨⟨0, 0, rfl, .inl rfl⟩, rfl⟩
        by_cases d2 : 192 ≤ (s[i + k]'hik).toNat
        · go_wp2
          go_ret2
          exact ⟨⟨0, 0, rfl, .inl rfl⟩, rfl⟩
        go_wp2
        go_round
        case rel => exact ⟨k + 1, a * 64 + ((s[i + k]'hik).toNat - 128), by omega, by omega, rfl, by go_num, by congr 1; omega, by
            show _ = _
            rw [accf_step _ _ _ _ k1, ← HA.out, ← HD.out], fun j h3 h4 => by
            rcases Nat.lt_or_ge j k with h5 | h5
            · exact HC.out j h3 h5
            · obtain rfl : j = k := by omega
              rw [← HD.out]; exact ⟨hik, by omega, by omega⟩, by
            have h3 := HL.out
            show _ < 64 ^ (k + 1)
            rw [Nat.pow_succ]
            omega⟩
        case measure => simp [intOf]; omega
      · obtain rfl : k = 2 := by omega
        have ha : a < 16777216 := by
          have h3 := HL.out
          have h4 : (64 : Nat) ^ 2 ≤ 64 ^ 4 := Nat.pow_le_pow_right (by omega) (by omega)
          have h5 : (64 : Nat) ^ 4 = 16777216 := by decide
          omega
        by_cases e1 : a < 128
        · go_wp2
          go_ret2
          exact ⟨⟨0, 0, rfl, .inl rfl⟩, rfl⟩
        by_cases e2 : 1114111 < a
        · go_wp2
          go_ret2
          exact ⟨⟨0, 0, rfl, .inl rfl⟩, rfl⟩
        by_cases e3 : 55296 ≤ a
        · by_cases e4 : a < 57344
          · first
              | (exfalso; omega)
              | (go_wp2
                 go_ret2
                 exact ⟨⟨0, 0, rfl, .inl rfl⟩, rfl⟩)
          · go_wp2
            go_ret2
            exact ⟨⟨a, 2, rfl, .inr (decodeN 2 192 128 (by have := H1.out; have := H2.out; omega) (by omega) HC.out a HA.out (by omega) (by omega) (by omega))⟩, rfl⟩
        · first
            | (exfalso; omega)
            | (go_wp2
               go_ret2
               exact ⟨⟨a, 2, rfl, .inr (decodeN 2 192 128 (by have := H1.out; have := H2.out; omega) (by omega) HC.out a HA.out (by omega) (by omega) (by omega))⟩, rfl⟩)

set_option maxRecDepth 100000 in
set_option maxHeartbeats 3200000 in
theorem point_three (s : ByteArray) (i : Nat) (hi : i < s.size) (hs : s.size ≤ 2147483647) (w : World) (h1 : 224 ≤ by_ s i) (h2 : by_ s i < 240) :
    Calls Tryd.prog 19 #[.string s, .int .i64 i] w fun e w' => PtRes s i w e w' := by
  have hb := by_eq hi
  have HB := Lib.hid hb
  have H1 := Lib.hid h1
  have H2 := Lib.hid h2
  have g1 : 224 ≤ (s[i]'hi).toNat := by rw [hb]; exact h1
  have g2 : (s[i]'hi).toNat < 240 := by rw [hb]; exact h2
  clear hb h1 h2
  by_cases hn : s.size < i + 3
  · go_enter Tryd.func19, Tryd.ntmps19
    go_wp2
    go_ret2
    exact ⟨⟨0, 0, rfl, .inl rfl⟩, rfl⟩
  · have q0 : decide ((s.size : Int) - (i : Int) < 3) = false := by simp; omega
    have ql128 : decide (((s[i]'hi).toNat : Int) < 128) = false := by simp; omega
    have ql224 : decide (((s[i]'hi).toNat : Int) < 224) = false := by simp; omega
    have ql240 : decide (((s[i]'hi).toNat : Int) < 240) = true := by simp; omega
    have qg192 : decide ((192 : Int) ≤ ((s[i]'hi).toNat : Int)) = true := by simp; omega
    have qg224 : decide ((224 : Int) ≤ ((s[i]'hi).toNat : Int)) = true := by simp; omega
    go_enter Tryd.func19, Tryd.ntmps19
    go_wp2
    go_loop [4, 5, 8] (fun rv nv kv => ∃ (k a : Nat), 1 ≤ k ∧ k ≤ 3 ∧ nv = .int .i64 3 ∧ kv = .int .i64 k ∧ rv = .int .i64 a ∧ Hid (a = accf s i (by_ s i - 224) k) ∧ Hid (Cont s i k) ∧ Hid (a < 64 ^ k)) (fun _ _ kv => 3 - (intOf kv).toNat)
    case atStart => exact ⟨1, by_ s i - 224, by omega, by omega, rfl, rfl, by rw [HB.out]; have := H1.out; congr 1; omega, rfl, fun j h3 h4 => by omega, by have := H1.out; have := H2.out; show _ < 64 ^ 1; omega⟩
    case round =>
      obtain ⟨k, a, k1, k2, rfl, rfl, rfl, HA, HC, HL⟩ := hrel
      by_cases hk : k < 3
      · have hik : i + k < s.size := by omega
        have hd := by_eq hik
        have hd0 : (s[i + k]'hik).toNat < 256 := by rw [hd]; exact by_lt s (i + k)
        have HD := Lib.hid hd
        have ha : a < 262144 := by
          have h3 := HL.out
          have h4 : (64 : Nat) ^ k ≤ 64 ^ 3 := Nat.pow_le_pow_right (by omega) (by omega)
          have h5 : (64 : Nat) ^ 3 = 262144 := by decide
          omega
        clear hd
        by_cases d1 : (s[i + k]'hik).toNat < 128
        · go_wp2
          go_ret2
          exact ⟨⟨0, 0, rfl, .inl rfl⟩, rfl⟩
        by_cases d2 : 192 ≤ (s[i + k]'hik).toNat
        · go_wp2
          go_ret2
          exact ⟨⟨0, 0, rfl, .inl rfl⟩, rfl⟩
        go_wp2
        go_round
        case rel => exact ⟨k + 1, a * 64 + ((s[i + k]'hik).toNat - 128), by omega, by omega, rfl, by go_num, by congr 1; omega, by
            show _ = _
            rw [accf_step _ _ _ _ k1, ← HA.out, ← HD.out], fun j h3 h4 => by
            rcases Nat.lt_or_ge j k with h5 | h5
            · exact HC.out j h3 h5
            · obtain rfl : j = k := by omega
              rw [← HD.out]; exact ⟨hik, by omega, by omega⟩, by
            have h3 := HL.out
            show _ < 64 ^ (k + 1)
            rw [Nat.pow_succ]
            omega⟩
        case measure => simp [intOf]; omega
      · obtain rfl : k = 3 := by omega
        have ha : a < 16777216 := by
          have h3 := HL.out
          have h4 : (64 : Nat) ^ 3 ≤ 64 ^ 4 := Nat.pow_le_pow_right (by omega) (by omega)
          have h5 : (64 : Nat) ^ 4 = 16777216 := by decide
          omega
        by_cases e1 : a < 2048
        · go_wp2
          go_ret2
          exact ⟨⟨0, 0, rfl, .inl rfl⟩, rfl⟩
        by_cases e2 : 1114111 < a
        · go_wp2
          go_ret2
          exact ⟨⟨0, 0, rfl, .inl rfl⟩, rfl⟩
        by_cases e3 : 55296 ≤ a
        · by_cases e4 : a < 57344
          · first
              | (exfalso; omega)
              | (go_wp2
                 go_ret2
                 exact ⟨⟨0, 0, rfl, .inl rfl⟩, rfl⟩)
          · go_wp2
            go_ret2
            exact ⟨⟨a, 3, rfl, .inr (decodeN 3 224 2048 (by have := H1.out; have := H2.out; omega) (by omega) HC.out a HA.out (by omega) (by omega) (by omega))⟩, rfl⟩
        · first
            | (exfalso; omega)
            | (go_wp2
               go_ret2
               exact ⟨⟨a, 3, rfl, .inr (decodeN 3 224 2048 (by have := H1.out; have := H2.out; omega) (by omega) HC.out a HA.out (by omega) (by omega) (by omega))⟩, rfl⟩)

set_option maxRecDepth 100000 in
set_option maxHeartbeats 3200000 in
theorem point_four (s : ByteArray) (i : Nat) (hi : i < s.size) (hs : s.size ≤ 2147483647) (w : World) (h1 : 240 ≤ by_ s i) (h2 : by_ s i < 248) :
    Calls Tryd.prog 19 #[.string s, .int .i64 i] w fun e w' => PtRes s i w e w' := by
  have hb := by_eq hi
  have HB := Lib.hid hb
  have H1 := Lib.hid h1
  have H2 := Lib.hid h2
  have g1 : 240 ≤ (s[i]'hi).toNat := by rw [hb]; exact h1
  have g2 : (s[i]'hi).toNat < 248 := by rw [hb]; exact h2
  clear hb h1 h2
  by_cases hn : s.size < i + 4
  · go_enter Tryd.func19, Tryd.ntmps19
    go_wp2
    go_ret2
    exact ⟨⟨0, 0, rfl, .inl rfl⟩, rfl⟩
  · have q0 : decide ((s.size : Int) - (i : Int) < 4) = false := by simp; omega
    have ql128 : decide (((s[i]'hi).toNat : Int) < 128) = false := by simp; omega
    have ql224 : decide (((s[i]'hi).toNat : Int) < 224) = false := by simp; omega
    have ql240 : decide (((s[i]'hi).toNat : Int) < 240) = false := by simp; omega
    have ql248 : decide (((s[i]'hi).toNat : Int) < 248) = true := by simp; omega
    have qg192 : decide ((192 : Int) ≤ ((s[i]'hi).toNat : Int)) = true := by simp; omega
    have qg224 : decide ((224 : Int) ≤ ((s[i]'hi).toNat : Int)) = true := by simp; omega
    have qg240 : decide ((240 : Int) ≤ ((s[i]'hi).toNat : Int)) = true := by simp; omega
    go_enter Tryd.func19, Tryd.ntmps19
    go_wp2
    go_loop [4, 5, 8] (fun rv nv kv => ∃ (k a : Nat), 1 ≤ k ∧ k ≤ 4 ∧ nv = .int .i64 4 ∧ kv = .int .i64 k ∧ rv = .int .i64 a ∧ Hid (a = accf s i (by_ s i - 240) k) ∧ Hid (Cont s i k) ∧ Hid (a < 64 ^ k)) (fun _ _ kv => 4 - (intOf kv).toNat)
    case atStart => exact ⟨1, by_ s i - 240, by omega, by omega, rfl, rfl, by rw [HB.out]; have := H1.out; congr 1; omega, rfl, fun j h3 h4 => by omega, by have := H1.out; have := H2.out; show _ < 64 ^ 1; omega⟩
    case round =>
      obtain ⟨k, a, k1, k2, rfl, rfl, rfl, HA, HC, HL⟩ := hrel
      by_cases hk : k < 4
      · have hik : i + k < s.size := by omega
        have hd := by_eq hik
        have hd0 : (s[i + k]'hik).toNat < 256 := by rw [hd]; exact by_lt s (i + k)
        have HD := Lib.hid hd
        have ha : a < 262144 := by
          have h3 := HL.out
          have h4 : (64 : Nat) ^ k ≤ 64 ^ 3 := Nat.pow_le_pow_right (by omega) (by omega)
          have h5 : (64 : Nat) ^ 3 = 262144 := by decide
          omega
        clear hd
        by_cases d1 : (s[i + k]'hik).toNat < 128
        · go_wp2
          go_ret2
          exact ⟨⟨0, 0, rfl, .inl rfl⟩, rfl⟩
        by_cases d2 : 192 ≤ (s[i + k]'hik).toNat
        · go_wp2
          go_ret2
          exact ⟨⟨0, 0, rfl, .inl rfl⟩, rfl⟩
        go_wp2
        go_round
        case rel => exact ⟨k + 1, a * 64 + ((s[i + k]'hik).toNat - 128), by omega, by omega, rfl, by go_num, by congr 1; omega, by
            show _ = _
            rw [accf_step _ _ _ _ k1, ← HA.out, ← HD.out], fun j h3 h4 => by
            rcases Nat.lt_or_ge j k with h5 | h5
            · exact HC.out j h3 h5
            · obtain rfl : j = k := by omega
              rw [← HD.out]; exact ⟨hik, by omega, by omega⟩, by
            have h3 := HL.out
            show _ < 64 ^ (k + 1)
            rw [Nat.pow_succ]
            omega⟩
        case measure => simp [intOf]; omega
      · obtain rfl : k = 4 := by omega
        have ha : a < 16777216 := by
          have h3 := HL.out
          have h4 : (64 : Nat) ^ 4 ≤ 64 ^ 4 := Nat.pow_le_pow_right (by omega) (by omega)
          have h5 : (64 : Nat) ^ 4 = 16777216 := by decide
          omega
        by_cases e1 : a < 65536
        · go_wp2
          go_ret2
          exact ⟨⟨0, 0, rfl, .inl rfl⟩, rfl⟩
        by_cases e2 : 1114111 < a
        · go_wp2
          go_ret2
          exact ⟨⟨0, 0, rfl, .inl rfl⟩, rfl⟩
        by_cases e3 : 55296 ≤ a
        · by_cases e4 : a < 57344
          · first
              | (exfalso; omega)
              | (go_wp2
                 go_ret2
                 exact ⟨⟨0, 0, rfl, .inl rfl⟩, rfl⟩)
          · go_wp2
            go_ret2
            exact ⟨⟨a, 4, rfl, .inr (decodeN 4 240 65536 (by have := H1.out; have := H2.out; omega) (by omega) HC.out a HA.out (by omega) (by omega) (by omega))⟩, rfl⟩
        · first
            | (exfalso; omega)
            | (go_wp2
               go_ret2
               exact ⟨⟨a, 4, rfl, .inr (decodeN 4 240 65536 (by have := H1.out; have := H2.out; omega) (by omega) HC.out a HA.out (by omega) (by omega) (by omega))⟩, rfl⟩)

theorem point_any (s : ByteArray) (i : Nat) (hi : i < s.size) (hs : s.size ≤ 2147483647) (w : World) :
    Calls Tryd.prog 19 #[.string s, .int .i64 i] w fun e w' => PtRes s i w e w' := by
  have h := by_lt s i
  rcases Nat.lt_or_ge (by_ s i) 128 with h1 | h1
  · exact point_one s i hi hs w h1
  rcases Nat.lt_or_ge (by_ s i) 192 with h2 | h2
  · exact point_bad s i hi hs w (.inl ⟨h1, h2⟩)
  rcases Nat.lt_or_ge (by_ s i) 224 with h3 | h3
  · exact point_two s i hi hs w h2 h3
  rcases Nat.lt_or_ge (by_ s i) 240 with h4 | h4
  · exact point_three s i hi hs w h3 h4
  rcases Nat.lt_or_ge (by_ s i) 248 with h5 | h5
  · exact point_four s i hi hs w h4 h5
  · exact point_bad s i hi hs w (.inr h5)
end Go.Proofs.YtpgmnggicmbacaaDoor
namespace Go.Proofs.YtpgmnggicmbacaaDoor
open Go.RowKit
set_option linter.unusedVariables false
set_option linter.unusedSimpArgs false

/-- These are the code points of the text up to a place. -/
inductive Pts (s : ByteArray) : Nat → List Nat → Prop
  | nil : Pts s 0 []
  | snoc {i r n : Nat} {l : List Nat} (h : Pts s i l) (hp : PtOk s i r n) : Pts s (i + n) (l ++ [r])
/-- What Readable answers. -/
def RdPost (s : ByteArray) (w : World) (e : Ending) (w' : World) : Prop := (∃ b : Bool, e = .returned (.bool b) ∧ (b = true → ∃ l, Pts s s.size l)) ∧ w = w'

set_option maxRecDepth 100000 in
set_option maxHeartbeats 1600000 in
theorem readable_any (s : ByteArray) (hs : s.size ≤ 2147483647) (w : World) :
    Calls Tryd.prog 9 #[.string s] w (RdPost s w) := by
  go_enter Tryd.func9, Tryd.ntmps9
  go_wp2_with fail
  go_loopw [3] (fun t wr => ∃ (j : Nat) (l : List Nat), j ≤ s.size ∧ t = .int .i64 j ∧ wr = w ∧ Hid (Pts s j l)) (fun t _ => s.size - (intOf t).toNat)
  case atStart => exact ⟨0, [], Nat.zero_le _, rfl, by trivial, Lib.hid .nil⟩
  case round =>
    obtain ⟨j, l, hj, rfl, rfl, HP0⟩ := hrel
    by_cases hlt : j < s.size
    · go_wp2_with fail
      refine (point_any s j hlt hs _).mono ?_
      rintro e w1 ⟨⟨r, n, rfl, hrn⟩, rfl⟩
      rcases Nat.eq_zero_or_pos n with h0 | h0
      · subst h0
        clear hrn
        go_wp2_with fail
        go_ret
        exact ⟨⟨false, rfl, fun h => by cases h⟩, rfl⟩
      · have hp : PtOk s j r n := by
          rcases hrn with h | h
          · omega
          · exact h
        have hnn : ((n : Int) == 0) = false := by simp; omega
        have hjn : j + n ≤ s.size := hp.2.1
        have HP := Lib.hid hp
        clear hrn hp
        rcases hr0 : ((r : Int) == 0) with _ | _
        · rcases hr1 : ((r : Int) == 65279) with _ | _
          · go_wp2_with fail
            go_roundw
            case rel => exact ⟨j + n, l ++ [r], hjn, by go_num, by trivial, Lib.hid (.snoc HP0.out HP.out)⟩
            case measure => simp [intOf]; omega
          · go_wp2_with fail
            go_ret
            exact ⟨⟨false, rfl, fun h => by cases h⟩, rfl⟩
        · go_wp2_with fail
          go_ret
          exact ⟨⟨false, rfl, fun h => by cases h⟩, rfl⟩
    · obtain rfl : j = s.size := by omega
      go_wp2_with fail
      go_ret
      exact ⟨⟨true, rfl, fun _ => ⟨l, HP0.out⟩⟩, rfl⟩
end Go.Proofs.YtpgmnggicmbacaaDoor
namespace Go.Proofs.YtpgmnggicmbacaaDoor
open Go.RowKit
set_option linter.unusedVariables false
set_option linter.unusedSimpArgs false

theorem bytes_ext {a b : ByteArray} (h : a.data.toList = b.data.toList) : a = b := WideShapes.bytes_inj h
/-- A code point that stands for itself. -/
def Scal (r : Nat) : Prop := r ≤ 1114111 ∧ ¬ (55296 ≤ r ∧ r < 57344)
def enc (r : Nat) : ByteArray := Utf8.encode (Int.ofNat r)
def text (l : List Nat) : ByteArray := runesBytes (l.map Int.ofNat)

theorem text_nil : text [] = ByteArray.empty := rfl
theorem text_snoc (l : List Nat) (r : Nat) : text (l ++ [r]) = text l ++ enc r := by
  simp [text, runesBytes, enc]

theorem by_data (s : ByteArray) (i : Nat) : by_ s i = (s.data[i]?.getD default).toNat := by
  unfold by_
  show (s.data[i]!).toNat = _
  rw [getElem!_def]
  cases s.data[i]? <;> rfl
theorem by_mid (p e q : ByteArray) (k : Nat) (hk : k < e.size) : by_ (p ++ e ++ q) (p.size + k) = by_ e k := by
  have hk' : k < e.data.size := hk
  have hp : p.size = p.data.size := rfl
  rw [by_data, by_data]
  congr 2
  simp only [ByteArray.data_append]
  rw [Array.getElem?_append_left (by rw [Array.size_append]; omega), Array.getElem?_append_right (by omega), hp]
  congr 1
  omega

theorem valid_scal {r : Nat} (h : Scal r) : Utf8.valid (Int.ofNat r) = true := by
  unfold Scal at h
  have e : (Int.ofNat r) = (r : Int) := rfl
  simp [Utf8.valid]; omega

theorem enc_data {r : Nat} (h : Scal r) : (enc r).data = if r < 128 then #[UInt8.ofNat r] else if r < 2048 then #[UInt8.ofNat (192 + r / 64), UInt8.ofNat (128 + r % 64)]
    else if r < 65536 then #[UInt8.ofNat (224 + r / 4096), UInt8.ofNat (128 + r / 64 % 64), UInt8.ofNat (128 + r % 64)]
    else #[UInt8.ofNat (240 + r / 262144), UInt8.ofNat (128 + r / 4096 % 64), UInt8.ofNat (128 + r / 64 % 64), UInt8.ofNat (128 + r % 64)] := by
  unfold enc Utf8.encode
  have e : (Int.ofNat r).toNat = r := rfl
  simp only [valid_scal h, if_true, e]
  repeat' split
  all_goals rfl

theorem u8_nat {n : Nat} (h : n < 256) : (UInt8.ofNat n).toNat = n := by rw [UInt8.toNat_ofNat']; omega
theorem enc_pt {r : Nat} (h : Scal r) (p q : ByteArray) : PtOk (p ++ enc r ++ q) p.size r (enc r).size := by
  have hd := enc_data h
  have hsz : (p ++ enc r ++ q).size = p.size + (enc r).size + q.size := by simp [ByteArray.size_append]
  have hb : ∀ k, k < (enc r).size → by_ (p ++ enc r ++ q) (p.size + k) = ((enc r).data[k]?.getD default).toNat := fun k hk => by rw [by_mid p _ q k hk, by_data]
  have h2 := h
  unfold Scal at h2
  generalize p ++ enc r ++ q = s at *
  have hs : ∀ b : ByteArray, b.size = b.data.size := fun _ => rfl
  rw [hs (enc r)] at hsz hb ⊢
  rw [hd] at hsz hb ⊢
  clear hd hs
  by_cases c1 : r < 128
  · rw [if_pos c1] at hsz hb ⊢
    have b0 := hb 0 (by simp)
    simp only [Nat.add_zero] at b0
    have e0 : by_ s p.size = r := by rw [b0]; exact u8_nat (by omega)
    have := decode1 (s := s) (i := p.size) (by simp at hsz; omega) (by omega)
    rw [e0] at this
    exact this
  · rw [if_neg c1] at hsz hb ⊢
    by_cases c2 : r < 2048
    · rw [if_pos c2] at hsz hb ⊢
      have b0 := hb 0 (by simp)
      have b1 := hb 1 (by simp)
      simp only [Nat.add_zero] at b0
      have e0 : by_ s p.size = 192 + r / 64 := by rw [b0]; exact u8_nat (by omega)
      have e1 : by_ s (p.size + 1) = 128 + r % 64 := by rw [b1]; exact u8_nat (by omega)
      simp at hsz
      refine decodeN 2 192 128 (.inl ⟨rfl, rfl, rfl, by omega, by omega⟩) (by omega) ?_ r ?_ (by omega) (by omega) h2.2
      · intro j h3 h4
        obtain rfl : j = 1 := by omega
        omega
      · rw [accf2, e0, e1]; omega
    · rw [if_neg c2] at hsz hb ⊢
      by_cases c3 : r < 65536
      · rw [if_pos c3] at hsz hb ⊢
        have b0 := hb 0 (by simp)
        have b1 := hb 1 (by simp)
        have b2 := hb 2 (by simp)
        simp only [Nat.add_zero] at b0
        have e0 : by_ s p.size = 224 + r / 4096 := by rw [b0]; exact u8_nat (by omega)
        have e1 : by_ s (p.size + 1) = 128 + r / 64 % 64 := by rw [b1]; exact u8_nat (by omega)
        have e2 : by_ s (p.size + 2) = 128 + r % 64 := by rw [b2]; exact u8_nat (by omega)
        simp at hsz
        refine decodeN 3 224 2048 (.inr (.inl ⟨rfl, rfl, rfl, by omega, by omega⟩)) (by omega) ?_ r ?_ (by omega) (by omega) h2.2
        · intro j h3 h4
          obtain rfl | rfl : j = 1 ∨ j = 2 := by omega
          · omega
          · omega
        · rw [accf3, e0, e1, e2]; omega
      · rw [if_neg c3] at hsz hb ⊢
        have b0 := hb 0 (by simp)
        have b1 := hb 1 (by simp)
        have b2 := hb 2 (by simp)
        have b3 := hb 3 (by simp)
        simp only [Nat.add_zero] at b0
        have e0 : by_ s p.size = 240 + r / 262144 := by rw [b0]; exact u8_nat (by omega)
        have e1 : by_ s (p.size + 1) = 128 + r / 4096 % 64 := by rw [b1]; exact u8_nat (by omega)
        have e2 : by_ s (p.size + 2) = 128 + r / 64 % 64 := by rw [b2]; exact u8_nat (by omega)
        have e3 : by_ s (p.size + 3) = 128 + r % 64 := by rw [b3]; exact u8_nat (by omega)
        simp at hsz
        refine decodeN 4 240 65536 (.inr (.inr ⟨rfl, rfl, rfl, by omega, by omega⟩)) (by omega) ?_ r ?_ (by omega) (by omega) h2.2
        · intro j h3 h4
          obtain rfl | rfl | rfl : j = 1 ∨ j = 2 ∨ j = 3 := by omega
          · omega
          · omega
          · omega
        · rw [accf4, e0, e1, e2, e3]; omega

theorem decode_scal (s : ByteArray) (i : Nat) : Scal (Utf8.decode s i).1 := by
  have hv : ∀ c : Nat, Utf8.valid (c : Int) = true → Scal c := by
    intro c hc
    simp [Utf8.valid] at hc
    unfold Scal; omega
  have he : Scal Utf8.runeError := by unfold Scal Utf8.runeError; omega
  unfold Utf8.decode
  simp only
  repeat' split
  all_goals first
    | exact he
    | (rename_i h; unfold Scal; simp only; omega)
    | (rename_i h; simp only [Bool.and_eq_true] at h; exact hv _ h.2)
    | (unfold Scal; simp only; have h1 := UInt8.toNat_lt (s.get! i); have h2 := UInt8.toNat_lt (s.get! (i + 1)); omega)
theorem by_ext {a b : ByteArray} (h : a.size = b.size) (hb : ∀ k, k < a.size → by_ a k = by_ b k) : a = b := by
  apply bytes_ext
  rw [Array.toList_inj]
  apply Array.ext
  · exact h
  · intro k h1 h2
    have := hb k h1
    rw [by_data, by_data, Array.getElem?_eq_getElem h1, Array.getElem?_eq_getElem h2] at this
    exact UInt8.toNat_inj.1 this
theorem by_cut {s : ByteArray} {i n k : Nat} (hi : i + n ≤ s.size) (hk : k < n) : by_ (s.extract i (i + n)) k = by_ s (i + k) := by
  rw [by_data, by_data]
  congr 2
  have : (s.extract i (i + n)).data = s.data.extract i (i + n) := by simp [ByteArray.data_extract]
  rw [this, Array.getElem?_extract]
  rw [if_pos (by have : s.size = s.data.size := rfl; omega)]
theorem cut_size {s : ByteArray} {i n : Nat} (hi : i + n ≤ s.size) : (s.extract i (i + n)).size = n := by
  rw [ByteArray.size_extract]; omega

theorem dec_eq (s : ByteArray) (i : Nat) : Utf8.decode s i = (if by_ s i < 0x80 then (by_ s i, 1) else
    if (by_ s i / 32 == 6 && (decide (i + 1 < s.size) && by_ s (i + 1) / 64 == 2)) = true then
      if by_ s i % 32 * 64 + by_ s (i + 1) % 64 ≥ 0x80 then (by_ s i % 32 * 64 + by_ s (i + 1) % 64, 2) else (Utf8.runeError, 1)
    else if (by_ s i / 16 == 14 && (decide (i + 1 < s.size) && by_ s (i + 1) / 64 == 2) && (decide (i + 2 < s.size) && by_ s (i + 2) / 64 == 2)) = true then
      if (decide (by_ s i % 16 * 4096 + by_ s (i + 1) % 64 * 64 + by_ s (i + 2) % 64 ≥ 0x800) && Utf8.valid (by_ s i % 16 * 4096 + by_ s (i + 1) % 64 * 64 + by_ s (i + 2) % 64 : Nat)) = true then (by_ s i % 16 * 4096 + by_ s (i + 1) % 64 * 64 + by_ s (i + 2) % 64, 3) else (Utf8.runeError, 1)
    else if (by_ s i / 8 == 30 && (decide (i + 1 < s.size) && by_ s (i + 1) / 64 == 2) && (decide (i + 2 < s.size) && by_ s (i + 2) / 64 == 2) && (decide (i + 3 < s.size) && by_ s (i + 3) / 64 == 2)) = true then
      if (decide (by_ s i % 8 * 262144 + by_ s (i + 1) % 64 * 4096 + by_ s (i + 2) % 64 * 64 + by_ s (i + 3) % 64 ≥ 0x10000) && Utf8.valid (by_ s i % 8 * 262144 + by_ s (i + 1) % 64 * 4096 + by_ s (i + 2) % 64 * 64 + by_ s (i + 3) % 64 : Nat)) = true then (by_ s i % 8 * 262144 + by_ s (i + 1) % 64 * 4096 + by_ s (i + 2) % 64 * 64 + by_ s (i + 3) % 64, 4) else (Utf8.runeError, 1)
    else (Utf8.runeError, 1)) := by
  unfold Utf8.decode
  simp only [Nat.add_zero]
  rfl

theorem size_of_data {E : ByteArray} {a : Array UInt8} (h : E.data = a) : E.size = a.size := by rw [← h]; rfl
theorem by_of_data {E : ByteArray} {a : Array UInt8} (h : E.data = a) (k : Nat) (b : UInt8) (hb : a[k]? = some b) : by_ E k = b.toNat := by
  rw [by_data, h, hb]; rfl
theorem enc_one {r : Nat} (h : Scal r) (c : r < 128) : (enc r).size = 1 ∧ by_ (enc r) 0 = r := by
  have hd := enc_data h
  rw [if_pos c] at hd
  exact ⟨size_of_data hd, by rw [by_of_data hd 0 _ rfl]; exact u8_nat (by omega)⟩
theorem enc_two {r : Nat} (h : Scal r) (c1 : ¬ r < 128) (c : r < 2048) : (enc r).size = 2 ∧ by_ (enc r) 0 = 192 + r / 64 ∧ by_ (enc r) 1 = 128 + r % 64 := by
  have hd := enc_data h
  rw [if_neg c1, if_pos c] at hd
  exact ⟨size_of_data hd, by rw [by_of_data hd 0 _ rfl]; exact u8_nat (by omega), by rw [by_of_data hd 1 _ rfl]; exact u8_nat (by omega)⟩
theorem enc_three {r : Nat} (h : Scal r) (c1 : ¬ r < 2048) (c : r < 65536) : (enc r).size = 3 ∧ by_ (enc r) 0 = 224 + r / 4096 ∧ by_ (enc r) 1 = 128 + r / 64 % 64 ∧ by_ (enc r) 2 = 128 + r % 64 := by
  have hd := enc_data h
  rw [if_neg (by omega), if_neg c1, if_pos c] at hd
  exact ⟨size_of_data hd, by rw [by_of_data hd 0 _ rfl]; exact u8_nat (by omega), by rw [by_of_data hd 1 _ rfl]; exact u8_nat (by omega), by rw [by_of_data hd 2 _ rfl]; exact u8_nat (by omega)⟩
theorem enc_four {r : Nat} (h : Scal r) (c1 : ¬ r < 65536) : (enc r).size = 4 ∧ by_ (enc r) 0 = 240 + r / 262144 ∧ by_ (enc r) 1 = 128 + r / 4096 % 64 ∧ by_ (enc r) 2 = 128 + r / 64 % 64 ∧ by_ (enc r) 3 = 128 + r % 64 := by
  have hd := enc_data h
  have h2 : r ≤ 1114111 := h.1
  rw [if_neg (by omega), if_neg (by omega), if_neg c1] at hd
  exact ⟨size_of_data hd, by rw [by_of_data hd 0 _ rfl]; exact u8_nat (by omega), by rw [by_of_data hd 1 _ rfl]; exact u8_nat (by omega), by rw [by_of_data hd 2 _ rfl]; exact u8_nat (by omega), by rw [by_of_data hd 3 _ rfl]; exact u8_nat (by omega)⟩

theorem pt_enc {s : ByteArray} {i r n : Nat} (h : PtOk s i r n) : s.extract i (i + n) = enc r ∧ Scal r := by
  obtain ⟨h1, h2, h3, h4, h5⟩ := h
  have hsc : Scal r := by have := decode_scal s i; rw [h3] at this; exact this
  refine ⟨?_, hsc⟩
  have hb0 := by_lt s i
  rw [dec_eq] at h3
  have he : Utf8.runeError = 65533 := rfl
  rw [he] at h3
  apply by_ext
  · rw [cut_size h2]
    repeat' split at h3
    all_goals (injection h3 with e1 e2)
    · rw [(enc_one hsc (by omega)).1]; omega
    · rename_i c1 c2 c3
      simp only [Bool.and_eq_true, beq_iff_eq, decide_eq_true_eq] at c2
      rw [(enc_two hsc (by omega) (by omega)).1]; omega
    · omega
    · rename_i c1 c2 c3 c4
      simp only [Bool.and_eq_true, beq_iff_eq, decide_eq_true_eq] at c3 c4
      rw [(enc_three hsc (by omega) (by omega)).1]; omega
    · omega
    · rename_i c1 c2 c3 c4 c5
      simp only [Bool.and_eq_true, beq_iff_eq, decide_eq_true_eq] at c4 c5
      rw [(enc_four hsc (by omega)).1]; omega
    · omega
    · omega
  · intro k hk
    rw [cut_size h2] at hk
    rw [by_cut h2 hk]
    repeat' split at h3
    all_goals (injection h3 with e1 e2)
    · obtain rfl : k = 0 := by omega
      rw [(enc_one hsc (by omega)).2]; exact e1
    · rename_i c1 c2 c3
      simp only [Bool.and_eq_true, beq_iff_eq, decide_eq_true_eq] at c2
      obtain ⟨-, a0, a1⟩ := enc_two hsc (by omega) (by omega)
      obtain rfl | rfl : k = 0 ∨ k = 1 := by omega
      · rw [a0, Nat.add_zero]; omega
      · rw [a1]; omega
    · omega
    · rename_i c1 c2 c3 c4
      simp only [Bool.and_eq_true, beq_iff_eq, decide_eq_true_eq] at c3 c4
      obtain ⟨-, a0, a1, a2⟩ := enc_three hsc (by omega) (by omega)
      obtain rfl | rfl | rfl : k = 0 ∨ k = 1 ∨ k = 2 := by omega
      · rw [a0, Nat.add_zero]; omega
      · rw [a1]; omega
      · rw [a2]; omega
    · omega
    · rename_i c1 c2 c3 c4 c5
      simp only [Bool.and_eq_true, beq_iff_eq, decide_eq_true_eq] at c4 c5
      obtain ⟨-, a0, a1, a2, a3⟩ := enc_four hsc (by omega)
      obtain rfl | rfl | rfl | rfl : k = 0 ∨ k = 1 ∨ k = 2 ∨ k = 3 := by omega
      · rw [a0, Nat.add_zero]; omega
      · rw [a1]; omega
      · rw [a2]; omega
      · rw [a3]; omega
    · omega
    · omega

end Go.Proofs.YtpgmnggicmbacaaDoor
namespace Go.Proofs.YtpgmnggicmbacaaDoor
open Go.RowKit
set_option linter.unusedVariables false
set_option linter.unusedSimpArgs false

/-- A hexadecimal digit's value. -/
def hexV (c : Nat) : Option Nat := if 48 ≤ c ∧ c ≤ 57 then some (c - 48) else if 97 ≤ c ∧ c ≤ 102 then some (c - 87) else if 65 ≤ c ∧ c ≤ 70 then some (c - 55) else none
/-- The value of the first k digits. -/
def hxk (s : ByteArray) (i : Nat) : Nat → Option Nat
  | 0 => some 0
  | k + 1 => (hxk s i k).bind fun a => (hexV (by_ s (i + k))).map fun d => 16 * a + d
def hx4 (s : ByteArray) (i : Nat) : Option Nat := if i + 4 ≤ s.size then hxk s i 4 else none
theorem hexV_lt {c d : Nat} (h : hexV c = some d) : d < 16 := by
  unfold hexV at h
  repeat' split at h
  all_goals first | (injection h with h; omega) | (cases h)
theorem hxk_lt {s : ByteArray} {i : Nat} : ∀ {k a : Nat}, hxk s i k = some a → a < 16 ^ k
  | 0, a, h => by simp [hxk] at h; subst h; simp
  | k + 1, a, h => by
    simp only [hxk, Option.bind_eq_some_iff, Option.map_eq_some_iff] at h
    obtain ⟨b, h1, d, h2, rfl⟩ := h
    have h3 := hxk_lt h1
    have h4 := hexV_lt h2
    rw [Nat.pow_succ]
    omega
theorem hxk_none {s : ByteArray} {i : Nat} : ∀ {k m : Nat}, hxk s i k = none → k ≤ m → hxk s i m = none
  | k, 0, h, hm => by
    obtain rfl : k = 0 := by omega
    exact h
  | k, m + 1, h, hm => by
    by_cases e : k = m + 1
    · rw [← e]; exact h
    · rw [hxk, hxk_none h (by omega)]; rfl
theorem hx4_lt {s : ByteArray} {i a : Nat} (h : hx4 s i = some a) : a < 65536 := by
  unfold hx4 at h
  split at h
  · exact hxk_lt h
  · cases h
/-- A backslash and a u. -/
def startsU (s : ByteArray) (i : Nat) : Bool := decide (i + 2 ≤ s.size) && (by_ s i == 92) && (by_ s (i + 1) == 117)
/-- The language's code point of hexadecimal digits, and how many bytes it takes. -/
def uniF (s : ByteArray) (i : Nat) : Option (Nat × Nat) :=
  match hx4 s i with
  | none => none
  | some n =>
    if n < 55296 ∨ 56320 ≤ n then some (n, 4)
    else if startsU s (i + 4) = false then some (n, 4)
    else match hx4 s (i + 6) with
      | none => some (n, 4)
      | some l => if l < 56320 ∨ 57344 ≤ l then some (n, 4) else some (65536 + (n - 55296) * 1024 + (l - 56320), 10)
theorem uniF_lt {s : ByteArray} {i n m : Nat} (h : uniF s i = some (n, m)) : n ≤ 1114111 ∧ (m = 4 ∨ m = 10) := by
  unfold uniF at h
  cases h1 : hx4 s i with
  | none => rw [h1] at h; cases h
  | some a =>
    rw [h1] at h
    have := hx4_lt h1
    simp only at h
    split at h
    · injection h with h; injection h with e1 e2; omega
    split at h
    · injection h with h; injection h with e1 e2; omega
    cases h2 : hx4 s (i + 6) with
    | none => rw [h2] at h; simp only at h; injection h with h; injection h with e1 e2; omega
    | some l =>
      rw [h2] at h
      simp only at h
      split at h
      · injection h with h; injection h with e1 e2; omega
      · injection h with h; injection h with e1 e2; omega
/-- What stands behind a backslash for a byte. -/
def escS (c : Nat) : Option Nat :=
  if c = 34 ∨ c = 39 ∨ c = 92 ∨ c = 47 then some c else if c = 98 then some 8 else if c = 102 then some 12 else if c = 110 then some 10 else if c = 114 then some 13 else if c = 116 then some 9 else none
/-- The bytes of a code point. -/
def encB (n : Nat) : List UInt8 :=
  if n < 128 then [UInt8.ofNat n] else if n < 2048 then [UInt8.ofNat (192 + n / 64), UInt8.ofNat (128 + n % 64)]
  else if n < 65536 then [UInt8.ofNat (224 + n / 4096), UInt8.ofNat (128 + n / 64 % 64), UInt8.ofNat (128 + n % 64)]
  else [UInt8.ofNat (240 + n / 262144), UInt8.ofNat (128 + n / 4096 % 64), UInt8.ofNat (128 + n / 64 % 64), UInt8.ofNat (128 + n % 64)]
theorem encB_le (n : Nat) : (encB n).length ≤ 4 := by
  unfold encB
  repeat' split
  all_goals simp
/-- One step of the language: where it goes on, what it writes, whether that is sure. -/
def stepS (s : ByteArray) (i : Nat) : Option (Nat × List UInt8 × Bool) :=
  if by_ s i = 92 then
    if s.size ≤ i + 1 then none
    else if by_ s (i + 1) = 117 then
      match uniF s (i + 2) with
      | none => none
      | some (n, m) => some (i + 2 + m, encB n, decide (n < 55296) || decide (57344 ≤ n))
    else match escS (by_ s (i + 1)) with
      | none => none
      | some c => some (i + 2, [UInt8.ofNat c], true)
  else some (i + 1, [UInt8.ofNat (by_ s i)], true)
def runS (s : ByteArray) : Nat → Nat → List UInt8 → Bool → Option (List UInt8) × Bool
  | 0, _, acc, sure => (some acc, sure)
  | f + 1, i, acc, sure =>
    if i < s.size then
      match stepS s i with
      | none => (none, sure)
      | some (j, bs, ok) => runS s f j (acc ++ bs) (sure && ok)
    else (some acc, sure)
/-- Two halves of a code point. -/
def pairR (c d : Nat) : Nat := if c < 56320 ∧ 56320 ≤ d ∧ d < 57344 then 65536 + (c - 55296) * 1024 + (d - 56320) else 65533
/-- What the package makes of a number that hexadecimal digits from a place on are. -/
def stepC (s : ByteArray) (k c : Nat) : Option (Nat × List UInt8) :=
  if 55296 ≤ c ∧ c < 57344 then
    if s.size < k + 10 then none
    else if startsU s (k + 4) = false then none
    else (hx4 s (k + 6)).map fun d => (k + 10, Lib.encodeRune (pairR c d : Nat))
  else some (k + 4, Lib.encodeRune (c : Nat))
/-- What it makes of what stands behind a backslash. -/
def stepB (s : ByteArray) (k r : Nat) : Option (Nat × List UInt8) :=
  if r = 117 then
    if s.size < k + 4 then none else (hx4 s k).bind fun c => stepC s k c
  else (escS r).map fun c => (k, Lib.encodeRune (c : Nat))
/-- One step of the package. -/
def stepP (s : ByteArray) (i : Nat) : Option (Nat × List UInt8) :=
  if (Utf8.decode s i).1 = 92 then
    if s.size ≤ i + (Utf8.decode s i).2 then none
    else stepB s (i + (Utf8.decode s i).2 + (Utf8.decode s (i + (Utf8.decode s i).2)).2) (Utf8.decode s (i + (Utf8.decode s i).2)).1
  else some (i + (Utf8.decode s i).2, Lib.encodeRune ((Utf8.decode s i).1 : Nat))
def runP (s : ByteArray) : Nat → Nat → List UInt8 → Option (List UInt8)
  | 0, _, acc => some acc
  | f + 1, i, acc =>
    if i < s.size then
      match stepP s i with
      | none => none
      | some (j, bs) => runP s f j (acc ++ bs)
    else some acc
def contP (s : ByteArray) (f : Nat) (l : List UInt8) : Option (Nat × List UInt8) → Option (List UInt8)
  | none => none
  | some (j, bs) => runP s f j (l ++ bs)
theorem runP_step {s : ByteArray} {f i : Nat} {l : List UInt8} (h : i < s.size) : runP s (f + 1) i l = contP s f l (stepP s i) := by
  rw [runP, if_pos h]
  cases stepP s i <;> rfl
def hexD (d : Nat) : UInt8 := UInt8.ofNat (if d < 10 then 48 + d else 87 + d)
/-- What the package writes for a code point. -/
def escB (single : Bool) (r : Nat) : List UInt8 :=
  if r = 34 then (if single then [34] else [92, 34])
  else if r = 39 then (if single then [92, 39] else [39])
  else if r = 92 then [92, 92] else if r = 8 then [92, 98] else if r = 12 then [92, 102] else if r = 10 then [92, 110] else if r = 13 then [92, 114] else if r = 9 then [92, 116]
  else if r = 0 then [92, 117, 48, 48, 48, 48]
  else if r < 32 ∨ (127 ≤ r ∧ r ≤ 159) then [92, 117, 48, 48, hexD (r / 16), hexD (r % 16)]
  else Lib.encodeRune (r : Nat)
def runE (s : ByteArray) (single : Bool) : Nat → Nat → List UInt8 → List UInt8
  | 0, _, acc => acc
  | f + 1, i, acc => if i < s.size then runE s single f (i + (Utf8.decode s i).2) (acc ++ escB single (Utf8.decode s i).1) else acc
end Go.Proofs.YtpgmnggicmbacaaDoor
namespace Go.Proofs.YtpgmnggicmbacaaDoor
open Go.RowKit
set_option linter.unusedVariables false
set_option linter.unusedSimpArgs false

theorem enc_at {s : ByteArray} {r p : Nat} (h : Scal r) (hle : p + (enc r).size ≤ s.size) (hb : ∀ k, k < (enc r).size → by_ s (p + k) = ((enc r).data[k]?.getD default).toNat) : PtOk s p r (enc r).size := by
  have hd := enc_data h
  obtain ⟨q, hsz⟩ : ∃ q, s.size = p + (enc r).size + q := ⟨s.size - (p + (enc r).size), by omega⟩
  clear hle
  have h2 := h
  unfold Scal at h2
  have hs : ∀ b : ByteArray, b.size = b.data.size := fun _ => rfl
  rw [hs (enc r)] at hsz hb ⊢
  rw [hd] at hsz hb ⊢
  clear hd hs
  by_cases c1 : r < 128
  · rw [if_pos c1] at hsz hb ⊢
    have b0 := hb 0 (by simp)
    simp only [Nat.add_zero] at b0
    have e0 : by_ s p = r := by rw [b0]; exact u8_nat (by omega)
    have := decode1 (s := s) (i := p) (by simp at hsz; omega) (by omega)
    rw [e0] at this
    exact this
  · rw [if_neg c1] at hsz hb ⊢
    by_cases c2 : r < 2048
    · rw [if_pos c2] at hsz hb ⊢
      have b0 := hb 0 (by simp)
      have b1 := hb 1 (by simp)
      simp only [Nat.add_zero] at b0
      have e0 : by_ s p = 192 + r / 64 := by rw [b0]; exact u8_nat (by omega)
      have e1 : by_ s (p + 1) = 128 + r % 64 := by rw [b1]; exact u8_nat (by omega)
      simp at hsz
      refine decodeN 2 192 128 (.inl ⟨rfl, rfl, rfl, by omega, by omega⟩) (by omega) ?_ r ?_ (by omega) (by omega) h2.2
      · intro j h3 h4
        obtain rfl : j = 1 := by omega
        omega
      · rw [accf2, e0, e1]; omega
    · rw [if_neg c2] at hsz hb ⊢
      by_cases c3 : r < 65536
      · rw [if_pos c3] at hsz hb ⊢
        have b0 := hb 0 (by simp)
        have b1 := hb 1 (by simp)
        have b2 := hb 2 (by simp)
        simp only [Nat.add_zero] at b0
        have e0 : by_ s p = 224 + r / 4096 := by rw [b0]; exact u8_nat (by omega)
        have e1 : by_ s (p + 1) = 128 + r / 64 % 64 := by rw [b1]; exact u8_nat (by omega)
        have e2 : by_ s (p + 2) = 128 + r % 64 := by rw [b2]; exact u8_nat (by omega)
        simp at hsz
        refine decodeN 3 224 2048 (.inr (.inl ⟨rfl, rfl, rfl, by omega, by omega⟩)) (by omega) ?_ r ?_ (by omega) (by omega) h2.2
        · intro j h3 h4
          obtain rfl | rfl : j = 1 ∨ j = 2 := by omega
          · omega
          · omega
        · rw [accf3, e0, e1, e2]; omega
      · rw [if_neg c3] at hsz hb ⊢
        have b0 := hb 0 (by simp)
        have b1 := hb 1 (by simp)
        have b2 := hb 2 (by simp)
        have b3 := hb 3 (by simp)
        simp only [Nat.add_zero] at b0
        have e0 : by_ s p = 240 + r / 262144 := by rw [b0]; exact u8_nat (by omega)
        have e1 : by_ s (p + 1) = 128 + r / 4096 % 64 := by rw [b1]; exact u8_nat (by omega)
        have e2 : by_ s (p + 2) = 128 + r / 64 % 64 := by rw [b2]; exact u8_nat (by omega)
        have e3 : by_ s (p + 3) = 128 + r % 64 := by rw [b3]; exact u8_nat (by omega)
        simp at hsz
        refine decodeN 4 240 65536 (.inr (.inr ⟨rfl, rfl, rfl, by omega, by omega⟩)) (by omega) ?_ r ?_ (by omega) (by omega) h2.2
        · intro j h3 h4
          obtain rfl | rfl | rfl : j = 1 ∨ j = 2 ∨ j = 3 := by omega
          · omega
          · omega
          · omega
        · rw [accf4, e0, e1, e2, e3]; omega


theorem encB_enc {r : Nat} (h : Scal r) : (enc r).data.toList = encB r := by
  rw [enc_data h]
  unfold encB
  repeat' split
  all_goals rfl
theorem u8_nat_eq {a : Int} {b : Nat} (h : a = (b : Int)) : a.toNat.toUInt8 = UInt8.ofNat b := by
  subst h
  rfl
theorem encB_rune {r : Nat} (h : Scal r) : Lib.encodeRune (r : Nat) = encB r := by
  unfold Scal at h
  unfold encB Lib.encodeRune
  by_cases c1 : r < 128
  · rw [if_pos c1, Lib.encodeRuneZ_one (by omega) (by omega)]
    rfl
  by_cases c2 : r < 2048
  · rw [if_neg c1, if_pos c2, Lib.encodeRuneZ_two (by omega) (by omega)]
    simp only [List.map_cons, List.map_nil]
    rw [u8_nat_eq (show (192 : Int) + r / 64 = ((192 + r / 64 : Nat) : Int) by omega), u8_nat_eq (show (128 : Int) + r % 64 = ((128 + r % 64 : Nat) : Int) by omega)]
  by_cases c3 : r < 65536
  · rw [if_neg c1, if_neg c2, if_pos c3, Lib.encodeRuneZ_three (by omega)]
    simp only [List.map_cons, List.map_nil]
    rw [u8_nat_eq (show (224 : Int) + r / 4096 = ((224 + r / 4096 : Nat) : Int) by omega), u8_nat_eq (show (128 : Int) + r / 64 % 64 = ((128 + r / 64 % 64 : Nat) : Int) by omega), u8_nat_eq (show (128 : Int) + r % 64 = ((128 + r % 64 : Nat) : Int) by omega)]
  · rw [if_neg c1, if_neg c2, if_neg c3, Lib.encodeRuneZ_four (by omega) (by omega)]
    simp only [List.map_cons, List.map_nil]
    rw [u8_nat_eq (show (240 : Int) + r / 262144 = ((240 + r / 262144 : Nat) : Int) by omega), u8_nat_eq (show (128 : Int) + r / 4096 % 64 = ((128 + r / 4096 % 64 : Nat) : Int) by omega), u8_nat_eq (show (128 : Int) + r / 64 % 64 = ((128 + r / 64 % 64 : Nat) : Int) by omega), u8_nat_eq (show (128 : Int) + r % 64 = ((128 + r % 64 : Nat) : Int) by omega)]

/-- These bytes stand at a place. -/
def At (E : ByteArray) (p : Nat) (bs : List UInt8) : Prop := p + bs.length ≤ E.size ∧ ∀ k, k < bs.length → by_ E (p + k) = (bs[k]?.getD 0).toNat
theorem at_mid (P bs Q : List UInt8) : At ⟨(P ++ bs ++ Q).toArray⟩ P.length bs := by
  have hs : (⟨(P ++ bs ++ Q).toArray⟩ : ByteArray).size = (P ++ bs ++ Q).length := List.size_toArray
  refine ⟨by rw [hs]; simp, fun k hk => ?_⟩
  rw [by_data]
  show (((P ++ bs ++ Q).toArray)[P.length + k]?.getD default).toNat = _
  rw [List.getElem?_toArray, List.getElem?_append_left (by simp; omega), List.getElem?_append_right (by omega)]
  rw [show P.length + k - P.length = k by omega]
  rfl
theorem At.tail {E : ByteArray} {p : Nat} {b : UInt8} {bs : List UInt8} (h : At E p (b :: bs)) : At E (p + 1) bs := by
  refine ⟨by have := h.1; simp at this; omega, fun k hk => ?_⟩
  have := h.2 (k + 1) (by simp; omega)
  rw [show p + (k + 1) = p + 1 + k by omega] at this
  rw [this]
  simp
theorem At.head {E : ByteArray} {p : Nat} {b : UInt8} {bs : List UInt8} (h : At E p (b :: bs)) : p < E.size ∧ by_ E p = b.toNat := by
  refine ⟨by have := h.1; simp at this; omega, ?_⟩
  have := h.2 0 (by simp)
  simpa using this
theorem size_list (b : ByteArray) : b.data.toList.length = b.size := Array.length_toList
theorem data_get (b : ByteArray) (k : Nat) : b.data.toList[k]? = b.data[k]? := Array.getElem?_toList
theorem At.pt {E : ByteArray} {p r : Nat} (hr : Scal r) (h : At E p (encB r)) : PtOk E p r (encB r).length := by
  have e1 := encB_enc hr
  have e2 : (enc r).size = (encB r).length := by
    rw [← e1, size_list]
  rw [← e2]
  refine enc_at hr (by rw [e2]; exact h.1) fun k hk => ?_
  rw [h.2 k (by omega), ← e1, data_get]
  rfl

theorem runS_step {s : ByteArray} {f i j : Nat} {acc bs : List UInt8} {sure ok : Bool} (hlt : i < s.size) (h : stepS s i = some (j, bs, ok)) : runS s (f + 1) i acc sure = runS s f j (acc ++ bs) (sure && ok) := by
  rw [runS, if_pos hlt, h]
theorem runS_plain {E : ByteArray} {sure : Bool} : ∀ (bs : List UInt8) (p f : Nat) (acc : List UInt8), At E p bs → (∀ b ∈ bs, b ≠ 92) → runS E (bs.length + f) p acc sure = runS E f (p + bs.length) (acc ++ bs) sure
  | [], p, f, acc, _, _ => by simp
  | b :: bs, p, f, acc, h, hn => by
    have hb : by_ E p ≠ 92 := by
      rw [h.head.2]
      intro e
      exact hn b (by simp) (UInt8.toNat_inj.1 e)
    have h1 : stepS E p = some (p + 1, [b], true) := by
      unfold stepS
      rw [if_neg hb, h.head.2]
      simp
    rw [show (b :: bs).length + f = bs.length + f + 1 by simp; omega, runS_step h.head.1 h1, runS_plain bs (p + 1) f _ h.tail (fun x hx => hn x (by simp [hx]))]
    simp only [Bool.and_true, List.append_assoc, List.singleton_append, List.length_cons]
    rw [show p + 1 + bs.length = p + (bs.length + 1) by omega]
/-- One code point that is written is read by the language. -/
theorem hexV_hexD : ∀ d : Fin 16, hexV (hexD d.val).toNat = some d.val := by decide
theorem hx4_at {E : ByteArray} {p r : Nat} (hr : r < 256) (h : At E p [48, 48, hexD (r / 16), hexD (r % 16)]) : hx4 E p = some r := by
  have h0 := h.head.2
  have h1 := h.tail.head.2
  have h2 := h.tail.tail.head.2
  have h3 := h.tail.tail.tail.head.2
  have v2 := hexV_hexD ⟨r / 16, by omega⟩
  have v3 := hexV_hexD ⟨r % 16, by omega⟩
  simp only at v2 v3
  unfold hx4
  rw [if_pos (by have := h.1; simpa using this)]
  have v0 : hexV 48 = some 0 := rfl
  simp only [hxk, Nat.add_zero, h0, h1, show p + 2 = p + 1 + 1 from rfl, show p + 3 = p + 1 + 1 + 1 from rfl, h2, h3, v2, v3, show (48 : UInt8).toNat = 48 from rfl, v0, Option.bind_some, Option.map_some]
  congr 1
  omega
theorem plain_ne {r : Nat} (hs : Scal r) (h : r ≠ 92) : ∀ b ∈ encB r, b ≠ 92 := by
  unfold Scal at hs
  have key : ∀ n, 128 ≤ n → n < 256 → UInt8.ofNat n ≠ 92 := fun n h1 h2 e => by
    have := congrArg UInt8.toNat e
    rw [UInt8.toNat_ofNat'] at this
    have h3 : (92 : UInt8).toNat = 92 := rfl
    omega
  intro b hb
  unfold encB at hb
  repeat' split at hb
  · simp only [List.mem_singleton] at hb
    subst hb
    intro e
    have := congrArg UInt8.toNat e
    rw [UInt8.toNat_ofNat'] at this
    have h3 : (92 : UInt8).toNat = 92 := rfl
    omega
  all_goals
    simp only [List.mem_cons, List.not_mem_nil, or_false] at hb
    rcases hb with rfl | rfl | rfl | rfl
    all_goals exact key _ (by omega) (by omega)
theorem encB_low {r : Nat} (h : r < 128) : encB r = [UInt8.ofNat r] := by
  unfold encB
  rw [if_pos h]
theorem escB_cases (single : Bool) (r : Nat) :
    (∃ c, c < 128 ∧ c ≠ 117 ∧ escS c = some r ∧ r < 128 ∧ escB single r = [92, UInt8.ofNat c]) ∨
    (r < 160 ∧ escB single r = [92, 117, 48, 48, hexD (r / 16), hexD (r % 16)]) ∨
    (r ≠ 92 ∧ escB single r = Lib.encodeRune (r : Nat)) := by
  by_cases h0 : r = 34 ∨ r = 39 ∨ r = 92 ∨ r = 8 ∨ r = 12 ∨ r = 10 ∨ r = 13 ∨ r = 9 ∨ r = 0
  · rcases h0 with rfl | rfl | rfl | rfl | rfl | rfl | rfl | rfl | rfl
    · cases single
      · exact .inl ⟨34, by decide, by decide, rfl, by decide, rfl⟩
      · exact .inr (.inr ⟨by decide, rfl⟩)
    · cases single
      · exact .inr (.inr ⟨by decide, rfl⟩)
      · exact .inl ⟨39, by decide, by decide, rfl, by decide, rfl⟩
    · exact .inl ⟨92, by decide, by decide, rfl, by decide, rfl⟩
    · exact .inl ⟨98, by decide, by decide, rfl, by decide, rfl⟩
    · exact .inl ⟨102, by decide, by decide, rfl, by decide, rfl⟩
    · exact .inl ⟨110, by decide, by decide, rfl, by decide, rfl⟩
    · exact .inl ⟨114, by decide, by decide, rfl, by decide, rfl⟩
    · exact .inl ⟨116, by decide, by decide, rfl, by decide, rfl⟩
    · exact .inr (.inl ⟨by decide, rfl⟩)
  · simp only [not_or] at h0
    obtain ⟨a, b, c, d, e, f, g, i, j⟩ := h0
    by_cases h1 : r < 32 ∨ (127 ≤ r ∧ r ≤ 159)
    · refine .inr (.inl ⟨by omega, ?_⟩)
      unfold escB
      rw [if_neg a, if_neg b, if_neg c, if_neg d, if_neg e, if_neg f, if_neg g, if_neg i, if_neg j, if_pos h1]
    · refine .inr (.inr ⟨c, ?_⟩)
      unfold escB
      rw [if_neg a, if_neg b, if_neg c, if_neg d, if_neg e, if_neg f, if_neg g, if_neg i, if_neg j, if_neg h1]

theorem pieceS {E : ByteArray} {p r f : Nat} {acc : List UInt8} {sure : Bool} (single : Bool) (hr : Scal r) (h : At E p (escB single r)) (hf : E.size ≤ p + f) :
    ∃ f', E.size ≤ p + (escB single r).length + f' ∧ runS E f p acc sure = runS E f' (p + (escB single r).length) (acc ++ encB r) sure := by
  rcases escB_cases single r with ⟨c, c1, c2, c3, c4, e⟩ | ⟨c1, e⟩ | ⟨c1, e⟩
  · rw [e] at h ⊢
    have hl := h.1
    simp only [List.length_cons, List.length_nil] at hl ⊢
    obtain ⟨g, rfl⟩ : ∃ g, f = g + 1 := ⟨f - 1, by omega⟩
    refine ⟨g, by omega, ?_⟩
    have b1 := h.tail.head.2
    rw [u8_nat (by omega)] at b1
    rw [encB_low c4, runS_step h.head.1 (j := p + 2) (bs := [UInt8.ofNat r]) (ok := true) ?_, Bool.and_true]
    unfold stepS
    rw [if_pos (by rw [h.head.2]; rfl), if_neg (by omega), if_neg (by rw [b1]; exact c2), b1, c3]
  · rw [e] at h ⊢
    have hl := h.1
    simp only [List.length_cons, List.length_nil] at hl ⊢
    obtain ⟨g, rfl⟩ : ∃ g, f = g + 1 := ⟨f - 1, by omega⟩
    refine ⟨g, by omega, ?_⟩
    have hx := hx4_at (by omega) h.tail.tail
    have hu : uniF E (p + 2) = some (r, 4) := by
      unfold uniF
      rw [show p + 2 = p + 1 + 1 from rfl, hx]
      simp only
      rw [if_pos (by omega)]
    rw [runS_step h.head.1 (j := p + 6) (bs := encB r) (ok := true) ?_, Bool.and_true]
    unfold stepS
    rw [if_pos (by rw [h.head.2]; rfl), if_neg (by omega), if_pos (by rw [h.tail.head.2]; rfl), hu]
    simp
    omega
  · rw [e] at h ⊢
    rw [encB_rune hr] at h ⊢
    have hl := h.1
    obtain ⟨g, rfl⟩ : ∃ g, f = (encB r).length + g := ⟨f - (encB r).length, by omega⟩
    exact ⟨g, by omega, runS_plain _ _ _ _ h (plain_ne hr c1)⟩
theorem dec_low {E : ByteArray} {p : Nat} (h : p < E.size) (hb : by_ E p < 128) : Utf8.decode E p = (by_ E p, 1) := (decode1 h hb).2.2.1
theorem stepP_esc {E : ByteArray} {p c : Nat} (d0 : Utf8.decode E p = (92, 1)) (hp : p + 1 < E.size) (d1 : Utf8.decode E (p + 1) = (c, 1)) : stepP E p = stepB E (p + 2) c := by
  unfold stepP
  simp only [d0, if_true, d1]
  rw [if_neg (by omega)]
theorem pieceP {E : ByteArray} {p r f : Nat} {acc : List UInt8} (single : Bool) (hr : Scal r) (h : At E p (escB single r)) (hf : E.size ≤ p + f) :
    ∃ f', E.size ≤ p + (escB single r).length + f' ∧ runP E f p acc = runP E f' (p + (escB single r).length) (acc ++ encB r) := by
  rcases escB_cases single r with ⟨c, c1, c2, c3, c4, e⟩ | ⟨c1, e⟩ | ⟨c1, e⟩
  · rw [e] at h ⊢
    have hl := h.1
    simp only [List.length_cons, List.length_nil] at hl ⊢
    obtain ⟨g, rfl⟩ : ∃ g, f = g + 1 := ⟨f - 1, by omega⟩
    refine ⟨g, by omega, ?_⟩
    have b0 := h.head.2
    have b1 := h.tail.head.2
    rw [u8_nat (by omega)] at b1
    have d0 := dec_low h.head.1 (by rw [b0]; decide)
    have d1 := dec_low h.tail.head.1 (by rw [b1]; exact c1)
    rw [b0] at d0
    rw [b1] at d1
    rw [runP_step h.head.1, stepP_esc d0 h.tail.head.1 d1]
    unfold stepB
    rw [if_neg c2, c3]
    show runP E g (p + 1 + 1) (acc ++ Lib.encodeRune (r : Nat)) = _
    rw [encB_rune hr]
  · rw [e] at h ⊢
    have hl := h.1
    simp only [List.length_cons, List.length_nil] at hl ⊢
    obtain ⟨g, rfl⟩ : ∃ g, f = g + 1 := ⟨f - 1, by omega⟩
    refine ⟨g, by omega, ?_⟩
    have hx := hx4_at (by omega) h.tail.tail
    have b0 := h.head.2
    have b1 := h.tail.head.2
    have d0 := dec_low h.head.1 (by rw [b0]; decide)
    have d1 := dec_low h.tail.head.1 (by rw [b1]; decide)
    rw [b0] at d0
    rw [b1] at d1
    rw [runP_step h.head.1, stepP_esc d0 h.tail.head.1 d1]
    unfold stepB
    rw [if_pos (show UInt8.toNat 117 = 117 from rfl), if_neg (by omega)]
    rw [show p + 2 = p + 1 + 1 from rfl, hx]
    show contP E g acc (stepC E (p + 1 + 1) r) = _
    unfold stepC
    rw [if_neg (by omega)]
    show runP E g (p + 1 + 1 + 4) (acc ++ Lib.encodeRune (r : Nat)) = _
    rw [encB_rune hr]
  · rw [e] at h ⊢
    rw [encB_rune hr] at h ⊢
    have hp := h.pt hr
    have hl := h.1
    have hpos := hp.1
    obtain ⟨g, rfl⟩ : ∃ g, f = g + 1 := ⟨f - 1, by omega⟩
    refine ⟨g, by omega, ?_⟩
    rw [runP_step (by omega)]
    unfold stepP
    rw [hp.2.2.1, if_neg c1]
    show runP E g (p + (encB r).length) (acc ++ Lib.encodeRune (r : Nat)) = _
    rw [encB_rune hr]

/-- The bytes of a text of code points; what the package writes for them. -/
def bytesB (l : List Nat) : List UInt8 := l.flatMap encB
def pieces (single : Bool) (l : List Nat) : List UInt8 := l.flatMap (escB single)
theorem runs_on (single : Bool) {E : ByteArray} : ∀ (l2 l1 : List Nat) (f : Nat) (acc : List UInt8) (sure : Bool), (∀ r ∈ l2, Scal r) → E = ⟨(pieces single (l1 ++ l2)).toArray⟩ → E.size ≤ (pieces single l1).length + f →
    runS E f (pieces single l1).length acc sure = (some (acc ++ bytesB l2), sure) ∧ runP E f (pieces single l1).length acc = some (acc ++ bytesB l2)
  | [], l1, f, acc, sure, _, hE, _ => by
    have hs : E.size = (pieces single l1).length := by rw [hE, List.append_nil]; exact List.size_toArray
    constructor
    · cases f with
      | zero => simp [runS, bytesB]
      | succ f => rw [runS, if_neg (by omega)]; simp [bytesB]
    · cases f with
      | zero => simp [runP, bytesB]
      | succ f => rw [runP, if_neg (by omega)]; simp [bytesB]
  | r :: l2, l1, f, acc, sure, hs, hE, hf => by
    have e1 : l1 ++ r :: l2 = (l1 ++ [r]) ++ l2 := by simp
    have e2 : (pieces single (l1 ++ [r])).length = (pieces single l1).length + (escB single r).length := by simp [pieces]
    have hat : At E (pieces single l1).length (escB single r) := by
      have := at_mid (pieces single l1) (escB single r) (pieces single l2)
      rw [hE]
      have e3 : pieces single (l1 ++ r :: l2) = pieces single l1 ++ escB single r ++ pieces single l2 := by simp [pieces]
      rw [e3]
      exact this
    have hE2 : E = ⟨(pieces single ((l1 ++ [r]) ++ l2)).toArray⟩ := by rw [hE, e1]
    have hr := hs r (by simp)
    constructor
    · obtain ⟨g, g1, g2⟩ := pieceS (acc := acc) (sure := sure) single hr hat hf
      rw [g2, ← e2]
      have := (runs_on single l2 (l1 ++ [r]) g (acc ++ encB r) sure (fun x hx => hs x (by simp [hx])) hE2 (by rw [e2]; exact g1)).1
      rw [this]
      simp [bytesB]
    · obtain ⟨g, g1, g2⟩ := pieceP (acc := acc) single hr hat hf
      rw [g2, ← e2]
      have := (runs_on single l2 (l1 ++ [r]) g (acc ++ encB r) sure (fun x hx => hs x (by simp [hx])) hE2 (by rw [e2]; exact g1)).2
      rw [this]
      simp [bytesB]
/-- A text has the bytes of its code points. -/
theorem pts_bytes {s : ByteArray} {i : Nat} {l : List Nat} (h : Pts s i l) : i ≤ s.size ∧ (∀ r ∈ l, Scal r) ∧ (s.extract 0 i).data.toList = bytesB l := by
  induction h with
  | nil => exact ⟨Nat.zero_le _, (fun _ h => absurd h List.not_mem_nil), by simp [bytesB]⟩
  | snoc h hp ih =>
    rename_i i r n l
    obtain ⟨h1, h2, h3⟩ := ih
    obtain ⟨e1, e2⟩ := pt_enc hp
    have hn := hp.2.1
    refine ⟨hn, (fun x hx => by
      rw [List.mem_append, List.mem_singleton] at hx
      rcases hx with hx | rfl
      · exact h2 x hx
      · exact e2), ?_⟩
    have e3 : s.extract 0 (i + n) = s.extract 0 i ++ s.extract i (i + n) := by
      rw [ByteArray.extract_append_extract, show min 0 i = 0 by omega, show max i (i + n) = i + n by omega]
    rw [e3, e1, ByteArray.data_append, Array.toList_append, h3, encB_enc e2]
    simp [bytesB]
theorem pts_all {s : ByteArray} {l : List Nat} (h : Pts s s.size l) : (∀ r ∈ l, Scal r) ∧ s.data.toList = bytesB l := by
  obtain ⟨-, h2, h3⟩ := pts_bytes h
  rw [ByteArray.extract_zero_size] at h3
  exact ⟨h2, h3⟩
/-- What the package writes for a text. -/
theorem runE_upto (single : Bool) {s : ByteArray} {i : Nat} {l : List Nat} (h : Pts s i l) : ∃ f, s.size ≤ i + f ∧ runE s single s.size 0 [] = runE s single f i (pieces single l) := by
  induction h with
  | nil => exact ⟨s.size, by omega, by simp [pieces]⟩
  | snoc h hp ih =>
    rename_i i r n l
    obtain ⟨f, h1, h2⟩ := ih
    have hn := hp.2.1
    have hp1 := hp.1
    obtain ⟨g, rfl⟩ : ∃ g, f = g + 1 := ⟨f - 1, by omega⟩
    refine ⟨g, by omega, ?_⟩
    rw [h2, runE, if_pos (by omega), hp.2.2.1]
    simp [pieces]
theorem runE_all (single : Bool) {s : ByteArray} {l : List Nat} (h : Pts s s.size l) : runE s single s.size 0 [] = pieces single l := by
  obtain ⟨f, -, h2⟩ := runE_upto single h
  rw [h2]
  cases f with
  | zero => rfl
  | succ f => rw [runE, if_neg (by omega)]
/-- The law. -/
theorem back_law (single : Bool) {s E : ByteArray} {l : List Nat} (h : Pts s s.size l) (hE : E = ⟨(runE s single s.size 0 []).toArray⟩) :
    runS E E.size 0 [] true = (some s.data.toList, true) ∧ runP E E.size 0 [] = some s.data.toList := by
  obtain ⟨h1, h2⟩ := pts_all h
  rw [runE_all single h] at hE
  have := runs_on single (E := E) l [] E.size [] true h1 (by simpa using hE) (by omega)
  rw [h2]
  simpa [pieces] using this
end Go.Proofs.YtpgmnggicmbacaaDoor
namespace Go.Proofs.YtpgmnggicmbacaaDoor
open Go.RowKit
set_option linter.unusedVariables false
set_option linter.unusedSimpArgs false

/-- From a place on a text is UTF-8. -/
inductive Tail (s : ByteArray) : Nat → Prop
  | done : Tail s s.size
  | more {i r n : Nat} (hp : PtOk s i r n) (h : Tail s (i + n)) : Tail s i
theorem tail_of_pts {s : ByteArray} {i : Nat} {l : List Nat} (h : Pts s i l) : Tail s i → Tail s 0 := by
  induction h with
  | nil => exact id
  | snoc h hp ih => exact fun t => ih (.more hp t)
theorem Tail.step {s : ByteArray} {i : Nat} (h : Tail s i) (hlt : i < s.size) : ∃ r n, PtOk s i r n ∧ Tail s (i + n) := by
  cases h with
  | done => omega
  | more hp h => exact ⟨_, _, hp, h⟩
theorem pt_at {s : ByteArray} {i r n : Nat} (h : PtOk s i r n) : Scal r ∧ (encB r).length = n ∧ At s i (encB r) := by
  obtain ⟨e1, e2⟩ := pt_enc h
  have hn := h.2.1
  have hl : (encB r).length = n := by
    rw [← encB_enc e2, ← e1, size_list, cut_size hn]
  refine ⟨e2, hl, by omega, fun k hk => ?_⟩
  rw [← by_cut (s := s) (i := i) (n := n) (k := k) hn (by omega), e1, by_data, ← data_get, encB_enc e2]
  rfl
theorem encB_first {r : Nat} (hs : Scal r) (h : 128 ≤ r) : ∃ b bs, encB r = b :: bs ∧ 128 ≤ b.toNat := by
  unfold Scal at hs
  unfold encB
  rw [if_neg (by omega)]
  repeat' split
  all_goals exact ⟨_, _, rfl, by rw [u8_nat (by omega)]; omega⟩
/-- What stands first tells whether it is one byte. -/
theorem pt_low {s : ByteArray} {i r n : Nat} (h : PtOk s i r n) (hb : by_ s i < 128) : r = by_ s i ∧ n = 1 := by
  have hlt : i < s.size := by have := h.1; have := h.2.1; omega
  have := (decode1 hlt hb).2.2.1
  rw [h.2.2.1] at this
  injection this with e1 e2
  exact ⟨e1, e2⟩
theorem pt_high {s : ByteArray} {i r n : Nat} (h : PtOk s i r n) (hb : 128 ≤ by_ s i) : 128 ≤ r := by
  obtain ⟨hs, hl, hat⟩ := pt_at h
  rcases Nat.lt_or_ge r 128 with h1 | h1
  · rw [encB_low h1] at hat
    have := hat.head.2
    rw [u8_nat (by omega)] at this
    omega
  · exact h1
theorem Tail.ascii {s : ByteArray} {i : Nat} (h : Tail s i) (hlt : i < s.size) (hb : by_ s i < 128) : Tail s (i + 1) := by
  obtain ⟨r, n, hp, ht⟩ := h.step hlt
  obtain ⟨-, rfl⟩ := pt_low hp hb
  exact ht
theorem hexV_low {c d : Nat} (h : hexV c = some d) : c < 128 := by
  unfold hexV at h
  repeat' split at h
  all_goals first | omega | (cases h)
theorem Tail.hex {s : ByteArray} {i x : Nat} (h : Tail s i) (hx : hx4 s i = some x) : i + 4 ≤ s.size ∧ Tail s (i + 4) := by
  unfold hx4 at hx
  split at hx
  · rename_i hle
    refine ⟨hle, ?_⟩
    simp only [hxk, Option.bind_eq_some_iff, Option.map_eq_some_iff] at hx
    obtain ⟨a3, ⟨a2, ⟨a1, ⟨a0, h0, d0, v0, rfl⟩, d1, v1, rfl⟩, d2, v2, rfl⟩, d3, v3, rfl⟩ := hx
    have t1 := h.ascii (by omega) (hexV_low v0)
    have t2 := t1.ascii (by omega) (hexV_low v1)
    have t3 := t2.ascii (by omega) (hexV_low v2)
    exact t3.ascii (by omega) (hexV_low v3)
  · cases hx
theorem runS_false {s : ByteArray} : ∀ (f i : Nat) (acc : List UInt8), (runS s f i acc false).2 = false
  | 0, _, _ => rfl
  | f + 1, i, acc => by
    rw [runS]
    split
    · cases h : stepS s i with
      | none => rfl
      | some x =>
        obtain ⟨j, bs, ok⟩ := x
        exact runS_false f j _
    · rfl
theorem escS_low {c y : Nat} (h : escS c = some y) : c < 128 ∧ y < 128 := by
  unfold escS at h
  repeat' split at h
  all_goals first | (injection h with h; omega) | (cases h)
theorem startsU_at {s : ByteArray} {i : Nat} (h : startsU s i = true) : i + 2 ≤ s.size ∧ by_ s i = 92 ∧ by_ s (i + 1) = 117 := by
  unfold startsU at h
  simp only [Bool.and_eq_true, decide_eq_true_eq, beq_iff_eq] at h
  exact ⟨h.1.1, h.1.2, h.2⟩
theorem agree {s : ByteArray} : ∀ (m i fS fP : Nat) (acc : List UInt8), s.size - i ≤ m → i ≤ s.size → Tail s i → s.size ≤ i + fS → s.size ≤ i + fP → (runS s fS i acc true).2 = true → runP s fP i acc = (runS s fS i acc true).1 := by
  intro m
  induction m with
  | zero =>
    intro i fS fP acc hm hi _ _ _ _
    obtain rfl : i = s.size := by omega
    have e1 : runP s fP s.size acc = some acc := by
      cases fP with
      | zero => rfl
      | succ f => rw [runP, if_neg (by omega)]
    have e2 : (runS s fS s.size acc true).1 = some acc := by
      cases fS with
      | zero => rfl
      | succ f => rw [runS, if_neg (by omega)]
    rw [e1, e2]
  | succ m ih =>
    intro i fS fP acc hm hi ht hfS hfP hsure
    rcases Nat.lt_or_ge i s.size with hlt | hge
    · obtain ⟨gS, rfl⟩ : ∃ g, fS = g + 1 := ⟨fS - 1, by omega⟩
      obtain ⟨gP, rfl⟩ : ∃ g, fP = g + 1 := ⟨fP - 1, by omega⟩
      obtain ⟨r, n, hp, ht1⟩ := ht.step hlt
      obtain ⟨hs, hl, hat⟩ := pt_at hp
      have hn1 := hp.1
      have hn2 := hp.2.1
      rw [runP_step hlt]
      by_cases c1 : r = 92
      · subst c1
        have hat' : At s i [92] := hat
        have b0 : by_ s i = 92 := hat'.head.2
        obtain ⟨-, rfl⟩ := pt_low hp (by omega)
        by_cases c2 : s.size ≤ i + 1
        · have eS : stepS s i = none := by unfold stepS; rw [if_pos b0, if_pos c2]
          have eP : stepP s i = none := by unfold stepP; simp only [hp.2.2.1, if_true]; rw [if_pos c2]
          rw [runS, if_pos hlt, eS, eP]
          rfl
        obtain ⟨r2, n2, hp2, ht2⟩ := ht1.step (by omega)
        rcases Nat.lt_or_ge (by_ s (i + 1)) 128 with hb | hb
        · obtain ⟨rfl, rfl⟩ := pt_low hp2 hb
          have eP : stepP s i = stepB s (i + 2) (by_ s (i + 1)) := stepP_esc hp.2.2.1 (by omega) hp2.2.2.1
          rw [eP]
          unfold stepB
          by_cases c3 : by_ s (i + 1) = 117
          · rw [if_pos c3]
            cases hx : hx4 s (i + 2) with
            | none =>
              have eS : stepS s i = none := by unfold stepS; rw [if_pos b0, if_neg c2, if_pos c3]; unfold uniF; rw [hx]
              rw [runS, if_pos hlt, eS]
              split <;> rfl
            | some x =>
              obtain ⟨hle, ht4⟩ := Tail.hex (show Tail s (i + 2) from ht2) hx
              have hx16 := hx4_lt hx
              rw [if_neg (by omega)]
              show contP s gP acc (stepC s (i + 2) x) = _
              have eS : stepS s i = (uniF s (i + 2)).map fun q => (i + 2 + q.2, encB q.1, decide (q.1 < 55296) || decide (57344 ≤ q.1)) := by
                unfold stepS
                rw [if_pos b0, if_neg c2, if_pos c3]
                cases uniF s (i + 2) <;> rfl
              unfold stepC
              by_cases c4 : 55296 ≤ x ∧ x < 57344
              · rw [if_pos c4]
                have bad : uniF s (i + 2) = some (x, 4) → False := fun hu => by
                  rw [hu] at eS
                  have e5 : (decide (x < 55296) || decide (57344 ≤ x)) = false := by simp; omega
                  rw [show (some (x, 4) : Option (Nat × Nat)).map (fun q => (i + 2 + q.2, encB q.1, decide (q.1 < 55296) || decide (57344 ≤ q.1))) = some (i + 2 + 4, encB x, decide (x < 55296) || decide (57344 ≤ x)) from rfl, e5] at eS
                  rw [runS_step hlt eS, Bool.and_false, runS_false] at hsure
                  cases hsure
                by_cases c5 : 56320 ≤ x
                · exact (bad (by unfold uniF; rw [hx]; simp only; rw [if_pos (.inr c5)])).elim
                cases hu : startsU s (i + 2 + 4) with
                | false => exact (bad (by unfold uniF; rw [hx]; simp only; rw [if_neg (by omega), if_pos hu])).elim
                | true =>
                  cases hy : hx4 s (i + 2 + 6) with
                  | none => exact (bad (by unfold uniF; rw [hx]; simp only; rw [if_neg (by omega), if_neg (by rw [hu]; decide), hy])).elim
                  | some d =>
                    by_cases c6 : d < 56320 ∨ 57344 ≤ d
                    · exact (bad (by unfold uniF; rw [hx]; simp only; rw [if_neg (by omega), if_neg (by rw [hu]; decide), hy]; simp only; rw [if_pos c6])).elim
                    have hu2 : uniF s (i + 2) = some (65536 + (x - 55296) * 1024 + (d - 56320), 10) := by
                      unfold uniF
                      rw [hx]
                      simp only
                      rw [if_neg (by omega), if_neg (by rw [hu]; decide), hy]
                      simp only
                      rw [if_neg c6]
                    obtain ⟨q1, q2, q3⟩ := startsU_at hu
                    have t5 := ht4.ascii (by omega) (by omega)
                    have t6 := t5.ascii (by omega) (by omega)
                    obtain ⟨hle2, t7⟩ := Tail.hex (show Tail s (i + 2 + 6) from t6) hy
                    have hpr : pairR x d = 65536 + (x - 55296) * 1024 + (d - 56320) := by unfold pairR; rw [if_pos (by omega)]
                    have hsc : Scal (65536 + (x - 55296) * 1024 + (d - 56320)) := by unfold Scal; omega
                    rw [if_neg (by omega), if_neg (by decide)]
                    show runP s gP (i + 2 + 10) (acc ++ Lib.encodeRune (pairR x d : Nat)) = _
                    rw [hu2] at eS
                    have e5 : (decide (65536 + (x - 55296) * 1024 + (d - 56320) < 55296) || decide (57344 ≤ 65536 + (x - 55296) * 1024 + (d - 56320))) = true := by simp; omega
                    rw [show (some (65536 + (x - 55296) * 1024 + (d - 56320), 10) : Option (Nat × Nat)).map (fun q => (i + 2 + q.2, encB q.1, decide (q.1 < 55296) || decide (57344 ≤ q.1))) = some (i + 2 + 10, encB (65536 + (x - 55296) * 1024 + (d - 56320)), decide (65536 + (x - 55296) * 1024 + (d - 56320) < 55296) || decide (57344 ≤ 65536 + (x - 55296) * 1024 + (d - 56320))) from rfl, e5] at eS
                    rw [runS_step hlt eS, Bool.and_true] at hsure ⊢
                    rw [hpr, encB_rune hsc]
                    exact ih _ _ _ _ (by omega) (by omega) t7 (by omega) (by omega) hsure
              · rw [if_neg c4]
                have hu : uniF s (i + 2) = some (x, 4) := by unfold uniF; rw [hx]; simp only; rw [if_pos (by omega)]
                have hsc : Scal x := by unfold Scal; omega
                rw [hu] at eS
                have e5 : (decide (x < 55296) || decide (57344 ≤ x)) = true := by simp; omega
                rw [show (some (x, 4) : Option (Nat × Nat)).map (fun q => (i + 2 + q.2, encB q.1, decide (q.1 < 55296) || decide (57344 ≤ q.1))) = some (i + 2 + 4, encB x, decide (x < 55296) || decide (57344 ≤ x)) from rfl, e5] at eS
                show runP s gP (i + 2 + 4) (acc ++ Lib.encodeRune (x : Nat)) = _
                rw [runS_step hlt eS, Bool.and_true] at hsure ⊢
                rw [encB_rune hsc]
                exact ih _ _ _ _ (by omega) (by omega) ht4 (by omega) (by omega) hsure
          · rw [if_neg c3]
            cases he : escS (by_ s (i + 1)) with
            | none =>
              have eS : stepS s i = none := by unfold stepS; rw [if_pos b0, if_neg c2, if_neg c3, he]
              rw [runS, if_pos hlt, eS]
              rfl
            | some y =>
              have eS : stepS s i = some (i + 2, [UInt8.ofNat y], true) := by unfold stepS; rw [if_pos b0, if_neg c2, if_neg c3, he]
              have hy := (escS_low he).2
              show runP s gP (i + 2) (acc ++ Lib.encodeRune (y : Nat)) = _
              rw [runS_step hlt eS, Bool.and_true] at hsure ⊢
              rw [encB_rune (show Scal y by unfold Scal; omega), encB_low hy]
              exact ih _ _ _ _ (by omega) (by omega) ht2 (by omega) (by omega) hsure
        · have hr2 := pt_high hp2 hb
          have eS : stepS s i = none := by
            unfold stepS
            rw [if_pos b0, if_neg c2, if_neg (by omega)]
            cases he : escS (by_ s (i + 1)) with
            | none => rfl
            | some y => have := (escS_low he).1; omega
          have eP : stepP s i = none := by
            unfold stepP
            simp only [hp.2.2.1, if_true]
            rw [if_neg c2, hp2.2.2.1]
            unfold stepB
            simp only
            rw [if_neg (by omega)]
            cases he : escS r2 with
            | none => rfl
            | some y => have := (escS_low he).1; omega
          rw [runS, if_pos hlt, eS, eP]
          rfl
      · have eP : stepP s i = some (i + n, encB r) := by
          unfold stepP
          rw [hp.2.2.1]
          simp only
          rw [if_neg c1, encB_rune hs]
        rw [eP]
        show runP s gP (i + n) (acc ++ encB r) = _
        obtain ⟨g, hg⟩ : ∃ g, gS + 1 = (encB r).length + g := ⟨gS + 1 - (encB r).length, by omega⟩
        rw [hg, runS_plain _ _ _ _ hat (plain_ne hs c1), hl] at hsure ⊢
        exact ih _ _ _ _ (by omega) (by omega) ht1 (by omega) (by omega) hsure
    · exact (by
        obtain rfl : i = s.size := by omega
        have e1 : runP s fP s.size acc = some acc := by
          cases fP with
          | zero => rfl
          | succ f => rw [runP, if_neg (by omega)]
        have e2 : (runS s fS s.size acc true).1 = some acc := by
          cases fS with
          | zero => rfl
          | succ f => rw [runS, if_neg (by omega)]
        rw [e1, e2])
theorem agree_all {s : ByteArray} {l : List Nat} (h : Pts s s.size l) (hs : (runS s s.size 0 [] true).2 = true) : runP s s.size 0 [] = (runS s s.size 0 [] true).1 :=
  agree s.size 0 s.size s.size [] (by omega) (by omega) (tail_of_pts h .done) (by omega) (by omega) hs
/-- What is written of a rune is the text of a code point. -/
theorem rune_scal (r : Nat) : ∃ q, Scal q ∧ Lib.encodeRune (r : Nat) = encB q := by
  by_cases h : Scal r
  · exact ⟨r, h, encB_rune h⟩
  · refine ⟨65533, by unfold Scal; omega, ?_⟩
    unfold Scal at h
    unfold Lib.encodeRune
    rw [Lib.encodeRuneZ_bad (by omega)]
    rfl
theorem stepP_scal {s : ByteArray} {i j : Nat} {bs : List UInt8} (h : stepP s i = some (j, bs)) : ∃ q, Scal q ∧ bs = encB q := by
  have key : ∀ (k r : Nat) , (some (k, Lib.encodeRune (r : Nat)) : Option (Nat × List UInt8)) = some (j, bs) → ∃ q, Scal q ∧ bs = encB q := fun k r e => by
    injection e with e
    injection e with _ e
    obtain ⟨q, h1, h2⟩ := rune_scal r
    exact ⟨q, h1, by rw [← e, h2]⟩
  unfold stepP at h
  split at h
  · split at h
    · cases h
    · unfold stepB at h
      split at h
      · split at h
        · cases h
        · simp only [Option.bind_eq_some_iff] at h
          obtain ⟨c, -, h⟩ := h
          unfold stepC at h
          split at h
          · split at h
            · cases h
            · split at h
              · cases h
              · simp only [Option.map_eq_some_iff] at h
                obtain ⟨d, -, h⟩ := h
                exact key _ _ (congrArg some h)
          · exact key _ _ h
      · simp only [Option.map_eq_some_iff] at h
        obtain ⟨d, -, h⟩ := h
        exact key _ _ (congrArg some h)
  · exact key _ _ h
theorem runP_scal {s : ByteArray} : ∀ (f i : Nat) (l : List Nat) (out : List UInt8), (∀ r ∈ l, Scal r) → runP s f i (bytesB l) = some out → ∃ m, (∀ r ∈ m, Scal r) ∧ out = bytesB m
  | 0, i, l, out, hl, h => ⟨l, hl, by injection h with h; exact h.symm⟩
  | f + 1, i, l, out, hl, h => by
    by_cases hlt : i < s.size
    · rw [runP_step hlt] at h
      cases hs : stepP s i with
      | none => rw [hs] at h; cases h
      | some x =>
        obtain ⟨j, bs⟩ := x
        rw [hs] at h
        obtain ⟨q, h1, rfl⟩ := stepP_scal hs
        have e : bytesB l ++ encB q = bytesB (l ++ [q]) := by simp [bytesB]
        have h' : runP s f j (bytesB l ++ encB q) = some out := h
        rw [e] at h'
        exact runP_scal f j (l ++ [q]) out (fun x hx => by
          rw [List.mem_append, List.mem_singleton] at hx
          rcases hx with hx | rfl
          · exact hl x hx
          · exact h1) h'
    · rw [runP, if_neg hlt] at h
      exact ⟨l, hl, by injection h with h; exact h.symm⟩
/-- Bytes of code points read as these code points. -/
theorem pts_bytesB (l2 : List Nat) : ∀ (l1 : List Nat) (E : ByteArray), (∀ r ∈ l2, Scal r) → E = ⟨(bytesB (l1 ++ l2)).toArray⟩ → Pts E (bytesB l1).length l1 → Pts E (bytesB (l1 ++ l2)).length (l1 ++ l2) := by
  induction l2 with
  | nil => intro l1 E _ _ h; simpa using h
  | cons r l2 ih =>
    intro l1 E hs hE h
    have e1 : l1 ++ r :: l2 = (l1 ++ [r]) ++ l2 := by simp
    have hat : At E (bytesB l1).length (encB r) := by
      have := at_mid (bytesB l1) (encB r) (bytesB l2)
      rw [hE]
      have e3 : bytesB (l1 ++ r :: l2) = bytesB l1 ++ encB r ++ bytesB l2 := by simp [bytesB]
      rw [e3]
      exact this
    have hp := hat.pt (hs r (by simp))
    have h2 := Pts.snoc h hp
    have e2 : (bytesB l1).length + (encB r).length = (bytesB (l1 ++ [r])).length := by simp [bytesB]
    rw [e2] at h2
    rw [e1]
    exact ih (l1 ++ [r]) E (fun x hx => hs x (by simp [hx])) (by rw [hE, e1]) h2
theorem out_pts {s : ByteArray} {v : List UInt8} (h : runP s s.size 0 [] = some v) : ∃ l, Pts ⟨v.toArray⟩ (⟨v.toArray⟩ : ByteArray).size l ∧ v = bytesB l := by
  obtain ⟨m, h1, rfl⟩ := runP_scal s.size 0 [] v (fun _ h => absurd h List.not_mem_nil) (by simpa [bytesB] using h)
  refine ⟨m, ?_, rfl⟩
  have := pts_bytesB m [] ⟨(bytesB m).toArray⟩ h1 (by simp) (by simpa [bytesB] using Pts.nil)
  have hs : (⟨(bytesB m).toArray⟩ : ByteArray).size = (bytesB m).length := List.size_toArray
  rw [hs]
  simpa using this
end Go.Proofs.YtpgmnggicmbacaaDoor
namespace Go.Proofs.YtpgmnggicmbacaaDoor
open Go.RowKit
set_option linter.unusedVariables false
set_option linter.unusedSimpArgs false

/-- A byte stands ahead of a place. -/
def hasUp (v : ByteArray) (c p : Nat) : Bool := (List.range p).any fun i => by_ v i == c
theorem hasUp_zero (v : ByteArray) (c : Nat) : hasUp v c 0 = false := rfl
theorem hasUp_succ (v : ByteArray) (c p : Nat) : hasUp v c (p + 1) = (hasUp v c p || (by_ v p == c)) := by
  unfold hasUp
  rw [List.range_succ, List.any_append]
  simp
theorem hasUp_more (v : ByteArray) (c p : Nat) : ∀ n, (∀ k, k < n → by_ v (p + k) ≠ c) → hasUp v c (p + n) = hasUp v c p
  | 0, _ => rfl
  | n + 1, h => by
    rw [show p + (n + 1) = p + n + 1 by omega, hasUp_succ, hasUp_more v c p n (fun k hk => h k (by omega))]
    have := h n (by omega)
    rw [beq_eq_false_iff_ne.2 this, Bool.or_false]
theorem encB_high {r : Nat} (hs : Scal r) (h : 128 ≤ r) : ∀ (k : Nat) (b : UInt8), (encB r)[k]? = some b → 128 ≤ b.toNat := by
  unfold Scal at hs
  have key : ∀ b ∈ encB r, 128 ≤ b.toNat := by
    intro b hb
    unfold encB at hb
    rw [if_neg (by omega)] at hb
    repeat' split at hb
    all_goals
      simp only [List.mem_cons, List.not_mem_nil, or_false] at hb
      rcases hb with rfl | rfl | rfl | rfl
      all_goals (rw [u8_nat (by omega)]; omega)
  intro k b hb
  exact key b (List.mem_of_getElem? hb)
theorem hasUp_rune {v : ByteArray} {p r n c : Nat} (hp : PtOk v p r n) (hc : c < 128) : hasUp v c (p + n) = (hasUp v c p || decide (r = c)) := by
  obtain ⟨hs, hl, hat⟩ := pt_at hp
  rcases Nat.lt_or_ge r 128 with h1 | h1
  · rw [encB_low h1] at hat hl
    have hb := hat.head.2
    rw [u8_nat (by omega)] at hb
    obtain rfl : n = 1 := by simpa using hl.symm
    rw [hasUp_succ, hb]
    congr 1
  · rw [hasUp_more v c p n (fun k hk => by
      have h2 := hat.2 k (by omega)
      have h3 : k < (encB r).length := by omega
      have h4 := encB_high hs h1 k _ (List.getElem?_eq_getElem h3)
      rw [h2, List.getElem?_eq_getElem h3]
      simp only [Option.getD_some]
      omega), decide_eq_false (by omega), Bool.or_false]
def hasQ (v : ByteArray) (c : Nat) : Bool := hasUp v c v.size
set_option maxRecDepth 100000 in
theorem hasByte_any (v : ByteArray) (c : Nat) (hs : v.size ≤ 1000000000) (w : World) :
    Calls Tryd.prog 27 #[.string v, .int .u8 c] w fun e w' => e = .returned (.bool (hasQ v c)) ∧ w = w' := by
  go_enter Tryd.func27, Tryd.ntmps27
  go_wp2_with fail
  go_loopw [5] (fun t wr => ∃ i : Nat, t = .int .i64 i ∧ i ≤ v.size ∧ wr = w ∧ Hid (hasUp v c i = false)) (fun t _ => v.size - (intOf t).toNat)
  case atStart => exact ⟨0, rfl, by omega, by trivial, Lib.hid rfl⟩
  case round =>
    obtain ⟨i, rfl, hi, rfl, H⟩ := hrel
    by_cases hlt : i < v.size
    · have hd := by_eq hlt
      by_cases he : by_ v i = c
      · have q : (((v[i]'hlt).toNat : Int) == (c : Int)) = true := by rw [hd, he]; simp
        have HE := Lib.hid (show hasQ v c = true by
          unfold hasQ hasUp
          rw [List.any_eq_true]
          exact ⟨i, by simpa using hlt, by simpa using he⟩)
        clear hd he
        go_wp2_with fail
        go_ret
        exact ⟨by rw [HE.out]; rfl, rfl⟩
      · have q : (((v[i]'hlt).toNat : Int) == (c : Int)) = false := by rw [hd]; simp; omega
        have HN := Lib.hid (show hasUp v c (i + 1) = false by rw [hasUp_succ, H.out, beq_eq_false_iff_ne.2 he]; rfl)
        clear hd he
        go_wp2_with fail
        go_roundw
        case rel => exact ⟨i + 1, by go_num, by omega, by trivial, HN⟩
        case measure => simp [intOf]; omega
    · obtain rfl : i = v.size := by omega
      have HE := Lib.hid (show hasQ v c = false from H.out)
      go_wp2_with fail
      go_ret
      exact ⟨by rw [HE.out]; rfl, rfl⟩
end Go.Proofs.YtpgmnggicmbacaaDoor
namespace Go.Proofs.YtpgmnggicmbacaaDoor
open Go.RowKit
set_option linter.unusedVariables false
set_option linter.unusedSimpArgs false

set_option maxRecDepth 100000 in
theorem isDigit_any (c : Nat) (w : World) : Calls Tryd.prog 51 #[.int .u8 c] w fun e w' => e = .returned (.bool (decide (48 ≤ c) && decide (c ≤ 57))) ∧ w = w' := by
  by_cases h1 : 48 ≤ c <;> by_cases h2 : c ≤ 57
  all_goals first
    | (exfalso; omega)
    | (go_enter Tryd.func51, Tryd.ntmps51
       go_wp2
       go_ret
       simp [h1, h2]
       try omega)
theorem digit_yes (c : Nat) (h1 : 48 ≤ c) (h2 : c ≤ 57) (w : World) : Calls Tryd.prog 51 #[.int .u8 c] w fun e w' => e = .returned (.bool true) ∧ w = w' := by
  have := isDigit_any c w
  simpa [h1, h2] using this
theorem digit_no (c : Nat) (h1 : c < 48 ∨ 57 < c) (w : World) : Calls Tryd.prog 51 #[.int .u8 c] w fun e w' => e = .returned (.bool false) ∧ w = w' := by
  have := isDigit_any c w
  rwa [show (decide (48 ≤ c) && decide (c ≤ 57)) = false by simp; omega] at this
/-- What hexadecimal answers. -/
def HxPost (s : ByteArray) (i : Nat) (w : World) (e : Ending) (w' : World) : Prop := (∃ n : Int, e = .returned (.int .i64 n) ∧ (match hx4 s i with | none => n = -1 | some a => n = (a : Int))) ∧ w = w'

set_option maxRecDepth 100000 in
set_option maxHeartbeats 3200000 in
theorem hexadecimal_any (s : ByteArray) (i : Nat) (hs : s.size ≤ 1000000000) (hi : i ≤ s.size + 100) (w : World) :
    Calls Tryd.prog 41 #[.string s, .int .i64 i] w (HxPost s i w) := by
  by_cases hn : s.size < i + 4
  · have H := Lib.hid (show hx4 s i = none by unfold hx4; rw [if_neg (by omega)])
    go_enter Tryd.func41, Tryd.ntmps41
    go_wp2_with fail
    go_ret
    exact ⟨⟨-1, rfl, by rw [H.out]⟩, rfl⟩
  · have H := Lib.hid (show hx4 s i = hxk s i 4 by unfold hx4; rw [if_pos (by omega)])
    go_enter Tryd.func41, Tryd.ntmps41
    go_wp2_with fail
    go_loop [5, 6] (fun n t => ∃ k a : Nat, k ≤ 4 ∧ t = .int .i64 ((i + k : Nat) : Int) ∧ n = .int .i64 (a : Int) ∧ Hid (hxk s i k = some a) ∧ a < 65536) (fun _ t => i + 4 - (intOf t).toNat)
    case atStart => exact ⟨0, 0, by omega, by simp, rfl, Lib.hid rfl, by omega⟩
    case round =>
      obtain ⟨k, a, hk, rfl, rfl, HA, ha⟩ := hrel
      by_cases hlt : k < 4
      · have hik : i + k < s.size := by omega
        have hd := by_eq hik
        have hd0 : (s[i + k]'hik).toNat < 256 := by rw [hd]; exact by_lt s (i + k)
        have HD := Lib.hid hd
        have hpw : a < 4096 := by
          have h1 := hxk_lt HA.out
          have h2 : (16 : Nat) ^ k ≤ 16 ^ 3 := Nat.pow_le_pow_right (by omega) (by omega)
          have h3 : (16 : Nat) ^ 3 = 4096 := by decide
          omega
        clear hd
        by_cases c1 : 48 ≤ (s[i + k]'hik).toNat ∧ (s[i + k]'hik).toNat ≤ 57
        · obtain ⟨c1, c2⟩ := c1
          go_wp2_with (go_at_call 51; refine (digit_yes _ (by omega) (by omega) _).mono ?_; rintro e2 w2 ⟨rfl, rfl⟩)
          go_round
          case rel => exact ⟨k + 1, 16 * a + ((s[i + k]'hik).toNat - 48), by omega, by go_num, by congr 1; omega, Lib.hid (by
            rw [hxk, HA.out, ← HD.out]
            unfold hexV
            rw [if_pos ⟨c1, c2⟩]
            rfl), by omega⟩
          case measure => simp [intOf]; omega
        by_cases c2 : 97 ≤ (s[i + k]'hik).toNat ∧ (s[i + k]'hik).toNat ≤ 102
        · obtain ⟨c3, c4⟩ := c2
          go_wp2_with (go_at_call 51; refine (digit_no _ (by omega) _).mono ?_; rintro e2 w2 ⟨rfl, rfl⟩)
          go_round
          case rel => exact ⟨k + 1, 16 * a + ((s[i + k]'hik).toNat - 87), by omega, by go_num, by congr 1; omega, Lib.hid (by
            rw [hxk, HA.out, ← HD.out]
            unfold hexV
            rw [if_neg c1, if_pos ⟨c3, c4⟩]
            rfl), by omega⟩
          case measure => simp [intOf]; omega
        by_cases c3 : 65 ≤ (s[i + k]'hik).toNat ∧ (s[i + k]'hik).toNat ≤ 70
        · obtain ⟨c4, c5⟩ := c3
          go_wp2_with (go_at_call 51; refine (digit_no _ (by omega) _).mono ?_; rintro e2 w2 ⟨rfl, rfl⟩)
          go_round
          case rel => exact ⟨k + 1, 16 * a + ((s[i + k]'hik).toNat - 55), by omega, by go_num, by congr 1; omega, Lib.hid (by
            rw [hxk, HA.out, ← HD.out]
            unfold hexV
            rw [if_neg c1, if_neg c2, if_pos ⟨c4, c5⟩]
            rfl), by omega⟩
          case measure => simp [intOf]; omega
        have HN := Lib.hid (show hx4 s i = none by
          rw [H.out]
          refine hxk_none (k := k + 1) ?_ (by omega)
          rw [hxk, HA.out, ← HD.out]
          unfold hexV
          rw [if_neg c1, if_neg c2, if_neg c3]
          rfl)
        have hno : (s[i + k]'hik).toNat < 48 ∨ 57 < (s[i + k]'hik).toNat := by omega
        by_cases d1 : 97 ≤ (s[i + k]'hik).toNat
        all_goals by_cases d2 : 65 ≤ (s[i + k]'hik).toNat
        all_goals first
          | (exfalso; omega)
          | (go_wp2_with (go_at_call 51; refine (digit_no _ hno _).mono ?_; rintro e2 w2 ⟨rfl, rfl⟩)
             all_goals
               go_ret
               exact ⟨⟨-1, rfl, by rw [HN.out]⟩, rfl⟩)
      · obtain rfl : k = 4 := by omega
        go_wp2_with fail
        go_ret
        exact ⟨⟨(a : Int), rfl, by rw [H.out, HA.out]⟩, rfl⟩
theorem cut_list (s : ByteArray) (i n : Nat) (h : i + n ≤ s.size) : (s.extract i (i + n)).data.toList = (List.range n).map fun k => UInt8.ofNat (by_ s (i + k)) := by
  apply List.ext_getElem?
  intro k
  have hd : (s.extract i (i + n)).data = s.data.extract i (i + n) := by simp [ByteArray.data_extract]
  rw [hd, Array.getElem?_toList, Array.getElem?_extract]
  have hsz : s.size = s.data.size := rfl
  by_cases hk : k < n
  · rw [if_pos (by omega), List.getElem?_map, List.getElem?_range hk, Array.getElem?_eq_getElem (by omega)]
    simp only [Option.map_some, Option.some.injEq]
    rw [← by_eq (show i + k < s.size by omega)]
    show s.data[i + k] = UInt8.ofNat (s.data[i + k]).toNat
    simp
  · rw [if_neg (by omega), List.getElem?_eq_none (by simp; omega)]
theorem by_bytes (s : ByteArray) (i n : Nat) (h : i + n ≤ s.size) : (s.extract i (i + n)).toList = (List.range n).map fun k => UInt8.ofNat (by_ s (i + k)) := by
  rw [← cut_list s i n h]
  exact ByteArray.toList_eq _
theorem u8_beq {n c : Nat} (h : n < 256) (hc : c < 256) : (UInt8.ofNat n == UInt8.ofNat c) = (n == c) := by
  rw [Bool.eq_iff_iff]
  simp only [beq_iff_eq]
  constructor
  · intro e
    have := congrArg UInt8.toNat e
    rw [UInt8.toNat_ofNat', UInt8.toNat_ofNat'] at this
    omega
  · intro e
    rw [e]
theorem str_two (s : ByteArray) (i : Nat) (h : i + 2 ≤ s.size) : ((s.extract i (i + 2)).toList == [92, 117]) = startsU s i := by
  rw [by_bytes s i 2 h]
  unfold startsU
  rw [show decide (i + 2 ≤ s.size) = true by simpa using h]
  show ([UInt8.ofNat (by_ s (i + 0)), UInt8.ofNat (by_ s (i + 1))] == [UInt8.ofNat 92, UInt8.ofNat 117]) = _
  simp only [List.cons_beq_cons, Bool.true_and, Nat.add_zero, u8_beq (by_lt s i) (show 92 < 256 by omega), u8_beq (by_lt s (i + 1)) (show 117 < 256 by omega)]
  rw [show (([] : List UInt8) == []) = true from rfl, Bool.and_true]
set_option maxRecDepth 100000 in
theorem starts_any (s : ByteArray) (i : Nat) (hs : s.size ≤ 1000000000) (hi : i ≤ s.size + 100) (w : World) :
    Calls Tryd.prog 42 #[.string s, .int .i64 i, .string ⟨#[92, 117]⟩] w fun e w' => e = .returned (.bool (startsU s i)) ∧ w = w' := by
  by_cases h : i + 2 ≤ s.size
  · have HS := Lib.hid (str_two s i h)
    go_enter Tryd.func42, Tryd.ntmps42
    go_wp2_with fail
    go_ret
    refine ⟨?_, rfl⟩
    rw [← HS.out]
    rfl
  · have HS := Lib.hid (show startsU s i = false by unfold startsU; simp [h])
    go_enter Tryd.func42, Tryd.ntmps42
    go_wp2_with fail
    go_ret
    refine ⟨?_, rfl⟩
    rw [HS.out]
    rfl
/-- What unicode answers. -/
def UnPost (s : ByteArray) (i : Nat) (w : World) (e : Ending) (w' : World) : Prop :=
  (∃ n m : Int, e = .returned (.tuple #[.int .i64 n, .int .i64 m]) ∧ (match uniF s i with | none => n < 0 | some (a, b) => n = (a : Int) ∧ m = (b : Int))) ∧ w = w'
set_option maxRecDepth 100000 in
set_option maxHeartbeats 1600000 in
theorem unicode_any (s : ByteArray) (i : Nat) (hs : s.size ≤ 1000000000) (hi : i ≤ s.size + 10) (w : World) :
    Calls Tryd.prog 22 #[.string s, .int .i64 i] w (UnPost s i w) := by
  go_enter Tryd.func22, Tryd.ntmps22
  go_wp2_with fail
  refine (hexadecimal_any s i hs (by omega) _).mono ?_
  rintro e1 w1 ⟨⟨n, rfl, hn⟩, rfl⟩
  cases h1 : hx4 s i with
  | none =>
    rw [h1] at hn
    obtain rfl : n = -1 := hn
    (try clear hn)
    have H := Lib.hid (show uniF s i = none by unfold uniF; rw [h1])
    clear h1
    go_wp2_with fail
    go_ret2
    exact ⟨⟨-1, 4, rfl, by rw [H.out]; decide⟩, rfl⟩
  | some a =>
    rw [h1] at hn
    obtain rfl : n = (a : Int) := hn
    have ha := hx4_lt h1
    (try clear hn)
    by_cases c1 : a < 55296
    · have H := Lib.hid (show uniF s i = some (a, 4) by unfold uniF; rw [h1]; simp only; rw [if_pos (by omega)])
      clear h1
      go_wp2_with fail
      go_ret2
      exact ⟨⟨a, 4, rfl, by rw [H.out]; exact ⟨rfl, rfl⟩⟩, rfl⟩
    have q1 : decide ((a : Int) < 55296) = false := by simp; omega
    by_cases c2 : 56320 ≤ a
    · have H := Lib.hid (show uniF s i = some (a, 4) by unfold uniF; rw [h1]; simp only; rw [if_pos (by omega)])
      clear h1
      have q2 : decide ((a : Int) ≥ 56320) = true := by simp; omega
      clear c1 c2
      go_wp2_with fail
      go_ret2
      exact ⟨⟨a, 4, rfl, by rw [H.out]; exact ⟨rfl, rfl⟩⟩, rfl⟩
    have q2 : decide ((a : Int) ≥ 56320) = false := by simp; omega
    have C1 := Lib.hid c1
    have C2 := Lib.hid c2
    have hi4 : i + 4 ≤ s.size := by
      unfold hx4 at h1
      split at h1
      · assumption
      · cases h1
    cases hu : startsU s (i + 4) with
    | false =>
      have H := Lib.hid (show uniF s i = some (a, 4) by unfold uniF; rw [h1]; simp only; rw [if_neg (by omega), if_pos hu])
      clear h1
      have HU := Lib.hid hu
      clear hu
      go_wp2_with fail
      refine (starts_any s (i + 4) hs (by omega) _).mono ?_
      rintro e2 w2 ⟨rfl, rfl⟩
      rw [HU.out]
      go_wp2_with fail
      go_ret2
      exact ⟨⟨a, 4, rfl, by rw [H.out]; exact ⟨rfl, rfl⟩⟩, rfl⟩
    | true =>
      have H1 := Lib.hid h1
      have HU := Lib.hid hu
      clear h1 hu
      go_wp2_with fail
      refine (starts_any s (i + 4) hs (by omega) _).mono ?_
      rintro e2 w2 ⟨rfl, rfl⟩
      rw [HU.out]
      go_wp2_with fail
      refine (hexadecimal_any s (i + 6) hs (by omega) _).mono ?_
      rintro e3 w3 ⟨⟨n, rfl, hn⟩, rfl⟩
      cases h2 : hx4 s (i + 6) with
      | none =>
        rw [h2] at hn
        obtain rfl : n = -1 := hn
        (try clear hn)
        have H := Lib.hid (show uniF s i = some (a, 4) by unfold uniF; rw [H1.out]; simp only; rw [if_neg (by omega), if_neg (by rw [HU.out]; decide), h2])
        clear h2
        go_wp2_with fail
        go_ret2
        exact ⟨⟨a, 4, rfl, by rw [H.out]; exact ⟨rfl, rfl⟩⟩, rfl⟩
      | some l =>
        rw [h2] at hn
        obtain rfl : n = (l : Int) := hn
        have hl := hx4_lt h2
        (try clear hn)
        have HG := Lib.hid (show uniF s i = if l < 56320 ∨ 57344 ≤ l then some (a, 4) else some (65536 + (a - 55296) * 1024 + (l - 56320), 10) by unfold uniF; rw [H1.out]; simp only; rw [if_neg (by omega), if_neg (by rw [HU.out]; decide), h2])
        clear h2
        by_cases c3 : l < 56320
        · have q3 : decide ((l : Int) < 56320) = true := by simp; omega
          have C3 := Lib.hid c3
          clear c3
          go_wp2_with fail
          go_ret2
          exact ⟨⟨a, 4, rfl, by rw [HG.out, if_pos (.inl C3.out)]; exact ⟨rfl, rfl⟩⟩, rfl⟩
        have q3 : decide ((l : Int) < 56320) = false := by simp; omega
        by_cases c4 : 57344 ≤ l
        · have q4 : decide ((l : Int) ≥ 57344) = true := by simp; omega
          have C4 := Lib.hid c4
          clear c3 c4
          go_wp2_with fail
          go_ret2
          exact ⟨⟨a, 4, rfl, by rw [HG.out, if_pos (.inr C4.out)]; exact ⟨rfl, rfl⟩⟩, rfl⟩
        have q4 : decide ((l : Int) ≥ 57344) = false := by simp; omega
        have C3 := Lib.hid c3
        have C4 := Lib.hid c4
        clear c3 c4
        go_wp2_with fail
        go_ret2
        refine ⟨⟨_, 10, rfl, ?_⟩, rfl⟩
        rw [HG.out, if_neg (by have := C3.out; have := C4.out; omega)]
        have := C1.out
        have := C2.out
        have := C3.out
        refine ⟨?_, rfl⟩
        omega
/-- What escape answers. -/
def EsPost (c : Nat) (w : World) (e : Ending) (w' : World) : Prop :=
  (∃ (n : Nat) (b : Bool), e = .returned (.tuple #[.int .u8 n, .bool b]) ∧ (match escS c with | none => b = false | some a => b = true ∧ n = a)) ∧ w = w'
set_option maxRecDepth 100000 in
set_option maxHeartbeats 1600000 in
theorem escape_any (c : Nat) (w : World) : Calls Tryd.prog 24 #[.int .u8 c] w (EsPost c w) := by
  by_cases h0 : c = 34 ∨ c = 39 ∨ c = 92 ∨ c = 47 ∨ c = 98 ∨ c = 102 ∨ c = 110 ∨ c = 114 ∨ c = 116
  · rcases h0 with rfl | rfl | rfl | rfl | rfl | rfl | rfl | rfl | rfl
    · go_enter Tryd.func24, Tryd.ntmps24
      go_wp2_with fail
      go_ret2
      exact ⟨⟨34, true, rfl, ⟨rfl, rfl⟩⟩, rfl⟩
    · go_enter Tryd.func24, Tryd.ntmps24
      go_wp2_with fail
      go_ret2
      exact ⟨⟨39, true, rfl, ⟨rfl, rfl⟩⟩, rfl⟩
    · go_enter Tryd.func24, Tryd.ntmps24
      go_wp2_with fail
      go_ret2
      exact ⟨⟨92, true, rfl, ⟨rfl, rfl⟩⟩, rfl⟩
    · go_enter Tryd.func24, Tryd.ntmps24
      go_wp2_with fail
      go_ret2
      exact ⟨⟨47, true, rfl, ⟨rfl, rfl⟩⟩, rfl⟩
    · go_enter Tryd.func24, Tryd.ntmps24
      go_wp2_with fail
      go_ret2
      exact ⟨⟨8, true, rfl, ⟨rfl, rfl⟩⟩, rfl⟩
    · go_enter Tryd.func24, Tryd.ntmps24
      go_wp2_with fail
      go_ret2
      exact ⟨⟨12, true, rfl, ⟨rfl, rfl⟩⟩, rfl⟩
    · go_enter Tryd.func24, Tryd.ntmps24
      go_wp2_with fail
      go_ret2
      exact ⟨⟨10, true, rfl, ⟨rfl, rfl⟩⟩, rfl⟩
    · go_enter Tryd.func24, Tryd.ntmps24
      go_wp2_with fail
      go_ret2
      exact ⟨⟨13, true, rfl, ⟨rfl, rfl⟩⟩, rfl⟩
    · go_enter Tryd.func24, Tryd.ntmps24
      go_wp2_with fail
      go_ret2
      exact ⟨⟨9, true, rfl, ⟨rfl, rfl⟩⟩, rfl⟩
  · have H := Lib.hid (show escS c = none by
      unfold escS
      repeat' split
      all_goals first | rfl | omega)
    have q0 : ((c : Int) == 34) = false := by simp; omega
    have q1 : ((c : Int) == 39) = false := by simp; omega
    have q2 : ((c : Int) == 92) = false := by simp; omega
    have q3 : ((c : Int) == 47) = false := by simp; omega
    have q4 : ((c : Int) == 98) = false := by simp; omega
    have q5 : ((c : Int) == 102) = false := by simp; omega
    have q6 : ((c : Int) == 110) = false := by simp; omega
    have q7 : ((c : Int) == 114) = false := by simp; omega
    have q8 : ((c : Int) == 116) = false := by simp; omega
    clear h0
    go_enter Tryd.func24, Tryd.ntmps24
    go_wp2_with fail
    go_ret2
    exact ⟨⟨0, false, rfl, by rw [H.out]⟩, rfl⟩
end Go.Proofs.YtpgmnggicmbacaaDoor
namespace Go.Proofs.YtpgmnggicmbacaaDoor
open Go.RowKit
set_option linter.unusedVariables false
set_option linter.unusedSimpArgs false

theorem ofInt_small (a : Nat) (ha : a < 9223372036854775808) : (BitVec.ofInt 64 (a : Int)).toNat = a := by
  rw [BitVec.ofInt_natCast, BitVec.toNat_ofNat]; exact Nat.mod_eq_of_lt (by omega)
theorem bits_63 (a : Nat) (ha : a < 9223372036854775808) : bits .and .i64 (a : Int) 63 = ((a % 64 : Nat) : Int) := by
  have h2 : a &&& 63 = a % 64 := by
    have := Nat.and_two_pow_sub_one_eq_mod a 6
    have e2 : (2 : Nat) ^ 6 - 1 = 63 := by decide
    have e3 : (2 : Nat) ^ 6 = 64 := by decide
    rw [e2, e3] at this
    exact this
  show IntKind.i64.wrap ((BitVec.ofInt 64 (a : Int) &&& BitVec.ofInt 64 ((63 : Nat) : Int)).toNat : Int) = _
  rw [BitVec.toNat_and, ofInt_small a ha, ofInt_small 63 (by omega), h2, IntKind.wrap_i64]
  omega

theorem conv_bytes (w : World) (l : List UInt8) (cells : Array Value) (n : Nat) (hn : l.length = n) (hc : cells = (l.map fun b => Value.int .u8 (b.toNat : Int)).toArray) (E : ByteArray) (hE : E.data = l.toArray) :
    (convert 54 9 (.slice (some ⟨w.heap.size, 0, none⟩) n n)).run Tryd.prog (w.alloc (.cells cells 5)) = .ok (.string E) (w.alloc (.cells cells 5)) := by
  subst hn
  obtain ⟨d⟩ := E
  dsimp only at hE
  subst hE
  refine run_convert_bytes_back _ _ _ _ _ _ l Tryd.underlying54 Tryd.underlying5 Tryd.underlying9 fun j hj => ?_
  have h1 : (w.alloc (.cells cells 5)).cell? ⟨w.heap.size, j, none⟩ = cells[j]? := World.cell?_alloc_mark w cells _ _ j
  have h2 : (⟨w.heap.size, 0, none⟩ : Addr).add j = ⟨w.heap.size, j, none⟩ := by simp [Addr.add]; omega
  rw [h2, h1, hc]
  simp [hj]

theorem u8_int {n : Nat} (h : n < 256) : ((UInt8.ofNat n).toNat : Int) = (n : Int) := by rw [u8_nat h]

set_option maxRecDepth 100000 in
theorem encoded_one (r : Nat) (E : ByteArray) (hE : E.data = #[UInt8.ofNat r]) (h1 : r < 128) (w : World) :
    Calls Tryd.prog 23 #[.int .i64 r] w fun e w' => e = .returned (.string E) ∧ Below w.heap.size w w' := by
  have k1 := conv_bytes w [UInt8.ofNat r] #[.int .u8 r] 1 rfl (by simp only [List.map_cons, List.map_nil]; rw [u8_int (by omega)]) E hE
  clear hE
  go_enter Tryd.func23, Tryd.ntmps23
  go_wp2_with fail
  go_ret
  exact ⟨rfl, (Below.refl _ _).alloc (Nat.le_refl _) _⟩
set_option maxRecDepth 100000 in
theorem encoded_two (r : Nat) (E : ByteArray) (hE : E.data = #[UInt8.ofNat (192 + r / 64), UInt8.ofNat (128 + r % 64)]) (h1 : ¬ r < 128) (h2 : r < 2048) (w : World) :
    Calls Tryd.prog 23 #[.int .i64 r] w fun e w' => e = .returned (.string E) ∧ Below w.heap.size w w' := by
  have b1 := bits_63 r (by omega)
  have hm : r % 64 < 64 := Nat.mod_lt _ (by omega)
  have k1 := conv_bytes w [UInt8.ofNat (192 + r / 64), UInt8.ofNat (128 + r % 64)] #[.int .u8 (192 + (r : Int) / 64), .int .u8 (128 + ((r % 64 : Nat) : Int))] 2 rfl (by simp only [List.map_cons, List.map_nil]; rw [u8_int (by omega), u8_int (by omega)]; simp) E hE
  clear hE
  generalize r % 64 = m at *
  go_enter Tryd.func23, Tryd.ntmps23
  go_wp2_with fail
  go_ret
  exact ⟨rfl, (Below.refl _ _).alloc (Nat.le_refl _) _⟩
set_option maxRecDepth 100000 in
theorem encoded_three (r q p m m2 : Nat) (E : ByteArray) (hq : r / 4096 = q) (hp : r / 64 = p) (hm' : r % 64 = m) (hm2' : p % 64 = m2) (hE : E.data = #[UInt8.ofNat (224 + q), UInt8.ofNat (128 + m2), UInt8.ofNat (128 + m)]) (_h1 : ¬ r < 128) (h2 : ¬ r < 2048) (h3 : r < 65536) (w : World) :
    Calls Tryd.prog 23 #[.int .i64 r] w fun e w' => e = .returned (.string E) ∧ Below w.heap.size w w' := by
  have b1 := bits_63 r (by omega)
  have b2 := bits_63 p (by omega)
  rw [hm'] at b1
  rw [hm2'] at b2
  have s1 : (r : Int) / 4096 = (q : Int) := by omega
  have s2 : (r : Int) / 64 = (p : Int) := by omega
  have hm : m < 64 := by omega
  have hm2 : m2 < 64 := by omega
  have hqq : q < 16 := by omega
  have k1 := conv_bytes w [UInt8.ofNat (224 + q), UInt8.ofNat (128 + m2), UInt8.ofNat (128 + m)] #[.int .u8 (224 + (q : Int)), .int .u8 (128 + (m2 : Int)), .int .u8 (128 + (m : Int))] 3 rfl (by simp only [List.map_cons, List.map_nil]; rw [u8_int (by omega), u8_int (by omega), u8_int (by omega)]; simp) E hE
  have c1 : decide ((r : Int) < 128) = false := by simp; omega
  have c2 : decide ((r : Int) < 2048) = false := by simp; omega
  have c3 : decide ((r : Int) < 65536) = true := by simp; omega
  clear hE hq hp hm' hm2' _h1 h2 h3
  go_enter Tryd.func23, Tryd.ntmps23
  go_wp2_with fail
  go_ret
  exact ⟨rfl, (Below.refl _ _).alloc (Nat.le_refl _) _⟩
set_option maxRecDepth 100000 in
theorem encoded_four (r o q p m m2 m3 : Nat) (E : ByteArray) (ho : r / 262144 = o) (hq : r / 4096 = q) (hp : r / 64 = p) (hm' : r % 64 = m) (hm2' : p % 64 = m2) (hm3' : q % 64 = m3) (hE : E.data = #[UInt8.ofNat (240 + o), UInt8.ofNat (128 + m3), UInt8.ofNat (128 + m2), UInt8.ofNat (128 + m)]) (h3 : ¬ r < 65536) (h4 : r ≤ 1114111) (w : World) :
    Calls Tryd.prog 23 #[.int .i64 r] w fun e w' => e = .returned (.string E) ∧ Below w.heap.size w w' := by
  have b1 := bits_63 r (by omega)
  have b2 := bits_63 p (by omega)
  have b3 := bits_63 q (by omega)
  rw [hm'] at b1
  rw [hm2'] at b2
  rw [hm3'] at b3
  have s1 : (r : Int) / 4096 = (q : Int) := by omega
  have s2 : (r : Int) / 64 = (p : Int) := by omega
  have s3 : (r : Int) / 262144 = (o : Int) := by omega
  have hm : m < 64 := by omega
  have hm2 : m2 < 64 := by omega
  have hm3 : m3 < 64 := by omega
  have hoo : o < 8 := by omega
  have k1 := conv_bytes w [UInt8.ofNat (240 + o), UInt8.ofNat (128 + m3), UInt8.ofNat (128 + m2), UInt8.ofNat (128 + m)] #[.int .u8 (240 + (o : Int)), .int .u8 (128 + (m3 : Int)), .int .u8 (128 + (m2 : Int)), .int .u8 (128 + (m : Int))] 4 rfl (by simp only [List.map_cons, List.map_nil]; rw [u8_int (by omega), u8_int (by omega), u8_int (by omega), u8_int (by omega)]; simp) E hE
  have c1 : decide ((r : Int) < 128) = false := by simp; omega
  have c2 : decide ((r : Int) < 2048) = false := by simp; omega
  have c3 : decide ((r : Int) < 65536) = false := by simp; omega
  clear hE hq hp ho hm' hm2' hm3' h3 h4
  go_enter Tryd.func23, Tryd.ntmps23
  go_wp2_with fail
  go_ret
  exact ⟨rfl, (Below.refl _ _).alloc (Nat.le_refl _) _⟩

def EnPost (n : Nat) (w : World) (e : Ending) (w' : World) : Prop := e = .returned (.string ⟨(encB n).toArray⟩) ∧ Below w.heap.size w w'
theorem encoded_any (n : Nat) (hn : n ≤ 1114111) (w : World) : Calls Tryd.prog 23 #[.int .i64 n] w (EnPost n w) := by
  by_cases c1 : n < 128
  · exact encoded_one n _ (by unfold encB; rw [if_pos c1]) c1 w
  by_cases c2 : n < 2048
  · exact encoded_two n _ (by unfold encB; rw [if_neg c1, if_pos c2]) c1 c2 w
  by_cases c3 : n < 65536
  · exact encoded_three n _ _ _ _ _ rfl rfl rfl rfl (by unfold encB; rw [if_neg c1, if_neg c2, if_pos c3]) c1 c2 c3 w
  · exact encoded_four n _ _ _ _ _ _ _ rfl rfl rfl rfl rfl rfl (by unfold encB; rw [if_neg c1, if_neg c2, if_neg c3]) c3 hn w
end Go.Proofs.YtpgmnggicmbacaaDoor
namespace Go.Proofs.YtpgmnggicmbacaaDoor
open Go.RowKit
set_option linter.unusedVariables false
set_option linter.unusedSimpArgs false

theorem row_lt {w : World} {g : Nat} {o : Obj} (h : w.heap[g]? = some o) : g < w.heap.size := by
  rcases Nat.lt_or_ge g w.heap.size with hlt | hge
  · exact hlt
  · rw [Array.getElem?_eq_none hge] at h; cases h
theorem own_below {w w' : World} {base : Nat} {e : TypeId} {size : Nat} {v : Value} {n : Nat} {xs : List Value} (h : w.ownsRow base e size v n xs) (hb : Below w.heap.size w w') : w'.ownsRow base e size v n xs := by
  refine ⟨h.1, ?_⟩
  rcases h.2 with hn | ⟨g, cap, cur, rfl, hg, hgg, rest⟩
  · exact .inl hn
  · exact .inr ⟨g, cap, cur, rfl, hg, (hb.block g (row_lt hgg)).trans hgg, rest⟩
theorem info_u8 : (Tryd.prog.info? 5).map (fun i => (i.zero, i.size, i.bytes)) = some (some (.int .u8 0), 1, 1) := by kernel_rfl
theorem strCells_append (a b : ByteArray) : Lib.strCells (a ++ b) = Lib.strCells a ++ Lib.strCells b := by
  simp [Lib.strCells, ByteArray.data_append]
/-- Bytes that a call owns, as a string. -/
theorem conv_own {w : World} {base : Nat} {v : Value} {s : ByteArray} (h : w.ownsRow base 5 1 v s.size (Lib.strCells s)) (hv : v ≠ .slice none 0 0) :
    ∃ A c, v = .slice A s.size c ∧ (convert 54 9 (.slice A s.size c)).run Tryd.prog w = .ok (.string s) w := by
  have h0 := h
  rcases h0.2 with ⟨h1, _⟩ | ⟨g, cap, cur, rfl, _⟩
  · exact absurd h1 hv
  · refine ⟨_, _, rfl, ?_⟩
    have hl : s.data.toList.length = s.size := Array.length_toList
    have hc := run_convert_bytes_back (P := Tryd.prog) w 54 9 5 ⟨g, 0, none⟩ cap s.data.toList Tryd.underlying54 Tryd.underlying5 Tryd.underlying9 (fun j hj => by
      have h2 := h.cellAt j (by omega)
      have h3 : (⟨g, 0, none⟩ : Addr).add j = ⟨g, j, none⟩ := by simp [Addr.add]; omega
      rw [h3, h2]
      simp only [Lib.strCells, List.getElem?_map, List.getElem?_eq_getElem hj, Option.map_some])
    rw [hl] at hc
    rw [hc]


theorem heap_new1 (w : World) (o : Obj) : (w.alloc o).heap[w.heap.size]? = some o := heap_alloc_new w o
theorem Reads.ofCells {w : World} {B size n g : Nat} {cs : Array Value} {t : TypeId} {fr : Nat × Nat} (h : w.heap[g]? = some (.cells cs t fr)) (hs : cs.size = n * size) (hg : g < B) : Reads w B size (some ⟨g, 0, none⟩) n cs.toList :=
  ⟨by simpa using hs, fun _ => ⟨_, rfl, hg, World.news_of_block h⟩⟩
/-- Bytes in a row that the call owns. -/
def Byts (w : World) (B : Nat) (v : Value) (l : List UInt8) : Prop := w.ownsRow B 5 1 v l.length (Lib.byteCells l) ∧ v ≠ .slice none 0 0
theorem str_cells (l : List UInt8) : Lib.strCells ⟨l.toArray⟩ = Lib.byteCells l := by simp [Lib.strCells, Lib.byteCells]
theorem str_size (l : List UInt8) : (⟨l.toArray⟩ : ByteArray).size = l.length := by
  show l.toArray.size = _
  simp
theorem Byts.grow {w : World} {B : Nat} {v : Value} {l m : List UInt8} (h : w.ownsRow B 5 1 v (l.length + m.length) (Lib.byteCells l ++ Lib.byteCells m)) (hv : v ≠ .slice none 0 0) : Byts w B v (l ++ m) := by
  refine ⟨?_, hv⟩
  rw [List.length_append, Lib.byteCells_append]
  exact h
theorem Byts.below {w w' : World} {B : Nat} {v : Value} {l : List UInt8} (h : Byts w B v l) (hb : Below w.heap.size w w') : Byts w' B v l := ⟨own_below h.1 hb, h.2⟩
theorem Byts.conv {w : World} {B : Nat} {v : Value} {l : List UInt8} (h : Byts w B v l) : ∃ A c, v = .slice A l.length c ∧ (convert 54 9 (.slice A l.length c)).run Tryd.prog w = .ok (.string ⟨l.toArray⟩) w := by
  have h1 := conv_own (s := ⟨l.toArray⟩) (w := w) (base := B) (v := v) (by rw [str_size, str_cells]; exact h.1) h.2
  rw [str_size] at h1
  exact h1
/-- What Unescape answers. -/
def SuPost (s : ByteArray) (w : World) (e : Ending) (w' : World) : Prop :=
  (match runS s s.size 0 [] true with
    | (none, sure) => e = .returned (.tuple #[.string ⟨#[]⟩, .bool false, .bool sure])
    | (some l, sure) => e = .returned (.tuple #[.string ⟨l.toArray⟩, .bool true, .bool sure])) ∧ Below w.heap.size w w'
/-- What stands at the head of a round. -/
def SuI (s : ByteArray) (w wr : World) (fuel i : Nat) (v : Value) (l : List UInt8) (sure : Bool) : Prop :=
  runS s fuel i l sure = runS s s.size 0 [] true ∧ Byts wr w.heap.size v l ∧ Below w.heap.size w wr

set_option maxRecDepth 100000 in
set_option maxHeartbeats 3200000 in
theorem spec_Unescape_any (s : ByteArray) (hs : s.size ≤ 100000000) (w : World) :
    Calls Tryd.prog 12 #[.string s] w (SuPost s w) := by
  obtain ⟨i0, hi, hz, hs0, hb⟩ := info_parts info_u8
  have hmade := World.ownsRow_made (e := 5) (size := 1) w #[] 0 (Nat.le_refl _) (by unfold maxLen; omega) (by simp)
  have HM := Lib.hid hmade
  clear hmade
  go_enter Tryd.func12, Tryd.ntmps12
  go_wp2_with fail
  go_loopw [4, 5, 6] (fun q v t wr => ∃ (i fuel : Nat) (l : List UInt8) (sure : Bool), q = .bool sure ∧ t = .int .i64 i ∧ Hid (SuI s w wr fuel i v l sure) ∧ s.size ≤ i + fuel ∧ i ≤ s.size + 12 ∧ l.length ≤ 4 * i) (fun _ _ t _ => s.size - (intOf t).toNat)
  case atStart => exact ⟨0, s.size, [], true, rfl, rfl, Lib.hid ⟨rfl, ⟨HM.out, by simp⟩, (Below.refl _ _).alloc (Nat.le_refl _) _⟩, by omega, by omega, by simp⟩
  case round =>
    obtain ⟨i, fuel, l, sure, rfl, rfl, HI, h1, h2, h3⟩ := hrel
    clear HM
    by_cases hlt : i < s.size
    · obtain ⟨f, rfl⟩ : ∃ f, fuel = f + 1 := ⟨fuel - 1, by omega⟩
      have hd := by_eq hlt
      have hbs : w.heap.size ≤ wr.heap.size := HI.out.2.2.size
      have HR := Lib.hid HI.out.1
      have HV := Lib.hid HI.out.2.1
      have HB := Lib.hid HI.out.2.2
      clear HI
      by_cases c1 : by_ s i = 92
      · have q1 : (((s[i]'hlt).toNat : Int) == 92) = true := by rw [hd]; simp; omega
        have q1' : (((s[i]'hlt).toNat : Int) != 92) = false := by rw [hd]; simp; omega
        have HC1 := Lib.hid c1
        clear hd c1
        by_cases c2 : s.size ≤ i + 1
        · have HE := Lib.hid (show runS s s.size 0 [] true = (none, sure) by
            rw [← HR.out, runS, if_pos hlt]
            unfold stepS
            rw [if_pos HC1.out, if_pos c2])
          go_wp2_with fail
          go_ret3
          exact ⟨by rw [HE.out]; rfl, HB.out⟩
        have hlt2 : i + 1 < s.size := by omega
        have hd2 := by_eq hlt2
        by_cases c3 : by_ s (i + 1) = 117
        · have q3 : (((s[i + 1]'hlt2).toNat : Int) == 117) = true := by rw [hd2]; simp; omega
          clear hd2
          cases hu : uniF s (i + 2) with
          | none =>
            have HE := Lib.hid (show runS s s.size 0 [] true = (none, sure) by
              rw [← HR.out, runS, if_pos hlt]
              unfold stepS
              rw [if_pos HC1.out, if_neg c2, if_pos c3, hu])
            have HU := Lib.hid hu
            clear hu c3
            go_wp2_with fail
            refine (unicode_any s (i + 2) (by omega) (by omega) _).mono ?_
            rintro e2 w2 ⟨⟨n, m, rfl, hn⟩, rfl⟩
            rw [HU.out] at hn
            have hn0 : n < 0 := hn
            clear hn
            go_wp2_with fail
            go_ret3
            exact ⟨by rw [HE.out]; rfl, HB.out⟩
          | some nm =>
            obtain ⟨a, b⟩ := nm
            have HE := Lib.hid (show runS s f (i + 2 + b) (l ++ encB a) (sure && (decide (a < 55296) || decide (57344 ≤ a))) = runS s s.size 0 [] true by
              rw [← HR.out]
              conv => rhs; rw [runS, if_pos hlt]
              unfold stepS
              rw [if_pos HC1.out, if_neg c2, if_pos c3, hu])
            obtain ⟨hal, hbm⟩ := uniF_lt hu
            have HU := Lib.hid hu
            have hel := encB_le a
            clear hu c3
            go_wp2_with fail
            refine (unicode_any s (i + 2) (by omega) (by omega) _).mono ?_
            rintro e2 w2 ⟨⟨n, m, rfl, hn⟩, rfl⟩
            rw [HU.out] at hn
            obtain ⟨rfl, rfl⟩ : n = (a : Int) ∧ m = (b : Int) := hn
            (try clear hn)
            have p1 : (decide ((a : Int) < 55296)) = decide (a < 55296) := by simp; omega
            have p2 : (decide ((a : Int) ≥ 57344)) = decide (57344 ≤ a) := by simp; omega
            generalize hx1 : decide (a < 55296) = x1 at *
            generalize hx2 : decide (57344 ≤ a) = x2 at *
            have hno : (x1 && x2) = false := by
              rw [← hx1, ← hx2]
              simp
              omega
            have HX1 := Lib.hid hno
            clear hx1 hx2 hno
            obtain ⟨qq, hqq⟩ : ∃ qq, qq = (sure && (x1 || x2)) := ⟨_, rfl⟩
            rw [← hqq] at HE
            generalize hE : encB a = E at *
            have HEE := Lib.hid hE
            have HQ := Lib.hid hqq
            clear hE hqq
            cases sure <;> cases x1 <;> cases x2
            all_goals first
              | (exfalso
                 have hno := HX1.out
                 cases hno
                 done)
              | skip
            all_goals clear HX1
            all_goals
              have hqq := HQ.out
              first
                | (obtain rfl : qq = true := hqq)
                | (obtain rfl : qq = false := hqq)
              have q0 : decide ((a : Int) < 0) = false := by simp
              go_wp2_with fail
              clear q0 p1 p2
              refine (encoded_any a hal _).mono ?_
              rintro e3 w3 ⟨rfl, hb3⟩
              rw [HEE.out]
              have HV3 := Lib.hid (HV.out.below hb3)
              have HB3 := Lib.hid (HB.out.trans (hb3.mono hbs))
              have hbs3 := HB3.out.size
              have HW3 := Lib.hid (show w3.ownsRow w.heap.size 5 1 u5 l.length (Lib.byteCells l) from HV3.out.1)
              clear hb3
              have hEs : (⟨E.toArray⟩ : ByteArray).size = E.length := str_size E
              have HES := Lib.hid hEs
              clear hEs
              go_wp2_with (at_builtin; refine Lib.wpList_append_own_string _ rfl (.tmp 61) (.tmp 63) 54 9 rfl w.heap.size 5 i0 Tryd.underlying54 Tryd.underlying9 hi hz hs0 hb _ _ _ rfl HW3.out ⟨E.toArray⟩ rfl (by rw [HES.out]; unfold maxLen; omega) (by rw [HES.out]; omega) hbs3 ?_; intro v2 w2 hown2 hg2 hnil2)
              have hb2 : Below w.heap.size w w2 := HB3.out.grown hg2 hbs3 (fun k hk => (HW3.out.lt k hk).1)
              have hv2 : v2 ≠ .slice none 0 0 := fun h => HV3.out.2 (hnil2.1 h).1
              have HV4 := Lib.hid (Byts.grow (w := w2) (B := w.heap.size) (l := l) (m := E) (by rw [str_cells, str_size] at hown2; exact hown2) hv2)
              have HB4 := Lib.hid hb2
              clear hg2 hnil2 hown2 hv2 hb2
              go_roundw
              case rel => exact ⟨i + 2 + b, f, l ++ E, _, rfl, by go_num, Lib.hid ⟨HE.out, HV4.out, HB4.out⟩, by omega, by omega, by rw [List.length_append]; omega⟩
              case measure => simp [intOf]; omega
        · have q3 : (((s[i + 1]'hlt2).toNat : Int) == 117) = false := by rw [hd2]; simp; omega
          have hr0 := runS s (f + 1) i l sure
          have HG := Lib.hid (show runS s s.size 0 [] true = (match escS (by_ s (i + 1)) with | none => (none, sure) | some c => runS s f (i + 2) (l ++ [UInt8.ofNat c]) (sure && true)) by
            rw [← HR.out, runS, if_pos hlt]
            unfold stepS
            rw [if_pos HC1.out, if_neg c2, if_neg c3]
            cases escS (by_ s (i + 1)) <;> rfl)
          rw [← hd2] at HG
          clear c3 hr0 hd2
          go_wp2_with fail
          refine (escape_any _ _).mono ?_
          rintro e2 w2 ⟨⟨n, bb, rfl, hn⟩, rfl⟩
          cases he : escS (s[i + 1]'hlt2).toNat with
          | none =>
            rw [he] at hn
            obtain rfl : bb = false := hn
            have HE := Lib.hid (show runS s s.size 0 [] true = (none, sure) by rw [HG.out, he])
            (try clear hn)
            clear he
            go_wp2_with fail
            go_ret3
            exact ⟨by rw [HE.out]; rfl, HB.out⟩
          | some c =>
            rw [he] at hn
            obtain ⟨rfl, rfl⟩ : bb = true ∧ n = c := hn
            have HE := Lib.hid (show runS s f (i + 2) (l ++ [UInt8.ofNat n]) sure = runS s s.size 0 [] true by rw [HG.out, he, Bool.and_true])
            have hn256 : n < 256 := by
              have := by_lt s (i + 1)
              unfold escS at he
              rw [by_eq hlt2] at he
              repeat' split at he
              all_goals first | (injection he with he; omega) | (cases he)
            (try clear hn)
            clear he
            go_wp2_with (at_builtin; refine wpList_append_x _ rfl (.tmp 78) (.tmp 80) 54 rfl w.heap.size 5 i0 _ 1 1 Tryd.underlying54 hi hz hs0 hb rfl (by omega) u5 l.length _ rfl (HV.out.1.alloc _) (wr.heap.size + 1) (some ⟨wr.heap.size, 0, none⟩) 1 1 [.int .u8 n] rfl (Reads.ofCells (cs := #[.int .u8 n]) (heap_new1 _ _) rfl (by omega)) (by simp [Value.oneCell']) (.inr (by omega)) (by unfold maxLen; omega) (by omega) (by simp; omega) (wr.heap.size + 1) (by simp) ?_; intro g2 cap2 w2 hown2 hgrow2 hat2 hlt2)
            have hb2 : Below w.heap.size w w2 := (HB.out.alloc hbs _).grown hgrow2 (by simp; omega) (fun k hk => (HV.out.1.lt k hk).1)
            have HV4 := Lib.hid (Byts.grow (m := [UInt8.ofNat n]) (w := w2) (B := w.heap.size) (l := l) (by simp only [Lib.byteCells, List.map_cons, List.map_nil, List.length_cons, List.length_nil]; rw [u8_int hn256]; exact hown2) (by simp))
            have HB4 := Lib.hid hb2
            clear hgrow2 hown2 hb2 hat2
            go_roundw
            case rel => exact ⟨i + 2, f, l ++ [UInt8.ofNat n], sure, rfl, by go_num, Lib.hid ⟨HE.out, HV4.out, HB4.out⟩, by omega, by omega, by rw [List.length_append]; simp; omega⟩
            case measure => simp [intOf]; omega
      · have HS := Lib.hid (show runS s f (i + 1) (l ++ [UInt8.ofNat (by_ s i)]) sure = runS s s.size 0 [] true by
          rw [← HR.out]
          conv => rhs; rw [runS, if_pos hlt]
          unfold stepS
          rw [if_neg c1]
          simp only [Bool.and_true])
        have q1 : (((s[i]'hlt).toNat : Int) == 92) = false := by rw [hd]; simp; omega
        have q1' : (((s[i]'hlt).toNat : Int) != 92) = true := by rw [hd]; simp; omega
        have HD := Lib.hid hd
        clear hd
        go_wp2_with (at_builtin; refine wpList_append_x _ rfl (.tmp 22) (.tmp 26) 54 rfl w.heap.size 5 i0 _ 1 1 Tryd.underlying54 hi hz hs0 hb rfl (by omega) u5 l.length _ rfl (HV.out.1.alloc _) (wr.heap.size + 1) (some ⟨wr.heap.size, 0, none⟩) 1 1 [.int .u8 (s[i]'hlt).toNat] rfl (Reads.ofCells (cs := #[.int .u8 (s[i]'hlt).toNat]) (heap_new1 _ _) rfl (by omega)) (by simp [Value.oneCell']) (.inr (by omega)) (by unfold maxLen; omega) (by omega) (by simp; omega) (wr.heap.size + 1) (by simp) ?_; intro g2 cap2 w2 hown2 hgrow2 hat2 hlt2)
        have hb2 : Below w.heap.size w w2 := (HB.out.alloc hbs _).grown hgrow2 (by simp; omega) (fun k hk => (HV.out.1.lt k hk).1)
        have HV4 := Lib.hid (Byts.grow (m := [UInt8.ofNat (by_ s i)]) (w := w2) (B := w.heap.size) (l := l) (by simp only [Lib.byteCells, List.map_cons, List.map_nil, List.length_cons, List.length_nil]; rw [u8_int (by_lt s i), ← HD.out]; exact hown2) (by simp))
        have HB4 := Lib.hid hb2
        clear hgrow2 hown2 hb2 hat2
        go_roundw
        case rel => exact ⟨i + 1, f, _, sure, rfl, by go_num, Lib.hid ⟨HS.out, HV4.out, HB4.out⟩, by omega, by omega, by rw [List.length_append]; simp; omega⟩
        case measure => simp [intOf]; omega
    · have HE := Lib.hid (show runS s s.size 0 [] true = (some l, sure) by
        rw [← HI.out.1]
        cases fuel with
        | zero => rfl
        | succ f => rw [runS, if_neg hlt])
      obtain ⟨A, c, rfl, hcv⟩ := HI.out.2.1.conv
      have HB := Lib.hid HI.out.2.2
      clear HI
      go_wp2_with fail
      go_ret3
      exact ⟨by rw [HE.out]; rfl, HB.out⟩
end Go.Proofs.YtpgmnggicmbacaaDoor
