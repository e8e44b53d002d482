/-
  spec.point, where the first byte begins two, three or four bytes.
-/
import Derived.Test.YtpgmnggicmbacaaGreatDoorPoint
namespace Go.Proofs.YtpgmnggicmbacaaGreatDoor
open Go.RowKit

set_option maxRecDepth 100000 in
set_option maxHeartbeats 3200000 in
theorem point_two (s : ByteArray) (i : Nat) (hi : i < s.size) (hs : s.size ≤ 2147483647) (w : World) (h1 : 192 ≤ by_ s i) (h2 : by_ s i < 224) :
    Calls Tryz.prog 8 #[.string s, .int .i64 i] w fun e w' => PtRes s i w e w' := by
  have hb := by_eq hi
  have HB := Lib.hid hb
  have H1 := Lib.hid h1
  have H2 := Lib.hid h2
  have g1 : 192 ≤ (s[i]'hi).toNat := by rw [hb]; exact h1
  have g2 : (s[i]'hi).toNat < 224 := by rw [hb]; exact h2
  clear hb h1 h2
  by_cases hn : s.size < i + 2
  · go_enter Tryz.func8, Tryz.ntmps8
    go_wp2
    go_ret2
    exact ⟨⟨0, 0, rfl, .inl rfl⟩, rfl⟩
  · have q0 : decide ((s.size : Int) - (i : Int) < 2) = false := by simp; omega
    have ql128 : decide (((s[i]'hi).toNat : Int) < 128) = false := by simp; omega
    have ql224 : decide (((s[i]'hi).toNat : Int) < 224) = true := by simp; omega
    have qg192 : decide ((192 : Int) ≤ ((s[i]'hi).toNat : Int)) = true := by simp; omega
    go_enter Tryz.func8, Tryz.ntmps8
    go_wp2
    go_loop [4, 5, 8] (fun rv nv kv => ∃ (k a : Nat), 1 ≤ k ∧ k ≤ 2 ∧ nv = .int .i64 2 ∧ kv = .int .i64 k ∧ rv = .int .i64 a ∧ Hid (a = accf s i (by_ s i - 192) k) ∧ Hid (Cont s i k) ∧ Hid (a < 64 ^ k)) (fun _ _ kv => 2 - (intOf kv).toNat)
    case atStart => exact ⟨1, by_ s i - 192, by omega, by omega, rfl, rfl, by rw [HB.out]; have := H1.out; congr 1; omega, rfl, fun j h3 h4 => by omega, by have := H1.out; have := H2.out; show _ < 64 ^ 1; omega⟩
    case round =>
      obtain ⟨k, a, k1, k2, rfl, rfl, rfl, HA, HC, HL⟩ := hrel
      by_cases hk : k < 2
      · have hik : i + k < s.size := by omega
        have hd := by_eq hik
        have hd0 : (s[i + k]'hik).toNat < 256 := by rw [hd]; exact by_lt s (i + k)
        have HD := Lib.hid hd
        have ha : a < 262144 := by
          have h3 := HL.out
          have h4 : (64 : Nat) ^ k ≤ 64 ^ 3 := Nat.pow_le_pow_right (by omega) (by omega)
          have h5 : (64 : Nat) ^ 3 = 262144 := by decide
          omega
        clear hd
        by_cases d1 : (s[i + k]'hik).toNat < 128
        · go_wp2
          go_ret2
          exact ⟨⟨0, 0, rfl, .inl rfl⟩, rfl⟩
        by_cases d2 : 192 ≤ (s[i + k]'hik).toNat
        · go_wp2
          go_ret2
          exact ⟨⟨0, 0, rfl, .inl rfl⟩, rfl⟩
        go_wp2
        go_round
        case rel => exact ⟨k + 1, a * 64 + ((s[i + k]'hik).toNat - 128), by omega, by omega, rfl, by go_num, by congr 1; omega, by
            show _ = _
            rw [accf_step _ _ _ _ k1, ← HA.out, ← HD.out], fun j h3 h4 => by
            rcases Nat.lt_or_ge j k with h5 | h5
            · exact HC.out j h3 h5
            · obtain rfl : j = k := by omega
              rw [← HD.out]; exact ⟨hik, by omega, by omega⟩, by
            have h3 := HL.out
            show _ < 64 ^ (k + 1)
            rw [Nat.pow_succ]
            omega⟩
        case measure => simp [intOf]; omega
      · obtain rfl : k = 2 := by omega
        have ha : a < 16777216 := by
          have h3 := HL.out
          have h4 : (64 : Nat) ^ 2 ≤ 64 ^ 4 := Nat.pow_le_pow_right (by omega) (by omega)
          have h5 : (64 : Nat) ^ 4 = 16777216 := by decide
          omega
        by_cases e1 : a < 128
        · go_wp2
          go_ret2
          exact ⟨⟨0, 0, rfl, .inl rfl⟩, rfl⟩
        by_cases e2 : 1114111 < a
        · go_wp2
          go_ret2
          exact ⟨⟨0, 0, rfl, .inl rfl⟩, rfl⟩
        by_cases e3 : 55296 ≤ a
        · by_cases e4 : a < 57344
          · first
              | (exfalso; omega)
              | (go_wp2
                 go_ret2
                 exact ⟨⟨0, 0, rfl, .inl rfl⟩, rfl⟩)
          · go_wp2
            go_ret2
            exact ⟨⟨a, 2, rfl, .inr (decodeN 2 192 128 (by have := H1.out; have := H2.out; omega) (by omega) HC.out a HA.out (by omega) (by omega) (by omega))⟩, rfl⟩
        · first
            | (exfalso; omega)
            | (go_wp2
               go_ret2
               exact ⟨⟨a, 2, rfl, .inr (decodeN 2 192 128 (by have := H1.out; have := H2.out; omega) (by omega) HC.out a HA.out (by omega) (by omega) (by omega))⟩, rfl⟩)

set_option maxRecDepth 100000 in
set_option maxHeartbeats 3200000 in
theorem point_three (s : ByteArray) (i : Nat) (hi : i < s.size) (hs : s.size ≤ 2147483647) (w : World) (h1 : 224 ≤ by_ s i) (h2 : by_ s i < 240) :
    Calls Tryz.prog 8 #[.string s, .int .i64 i] w fun e w' => PtRes s i w e w' := by
  have hb := by_eq hi
  have HB := Lib.hid hb
  have H1 := Lib.hid h1
  have H2 := Lib.hid h2
  have g1 : 224 ≤ (s[i]'hi).toNat := by rw [hb]; exact h1
  have g2 : (s[i]'hi).toNat < 240 := by rw [hb]; exact h2
  clear hb h1 h2
  by_cases hn : s.size < i + 3
  · go_enter Tryz.func8, Tryz.ntmps8
    go_wp2
    go_ret2
    exact ⟨⟨0, 0, rfl, .inl rfl⟩, rfl⟩
  · have q0 : decide ((s.size : Int) - (i : Int) < 3) = false := by simp; omega
    have ql128 : decide (((s[i]'hi).toNat : Int) < 128) = false := by simp; omega
    have ql224 : decide (((s[i]'hi).toNat : Int) < 224) = false := by simp; omega
    have ql240 : decide (((s[i]'hi).toNat : Int) < 240) = true := by simp; omega
    have qg192 : decide ((192 : Int) ≤ ((s[i]'hi).toNat : Int)) = true := by simp; omega
    have qg224 : decide ((224 : Int) ≤ ((s[i]'hi).toNat : Int)) = true := by simp; omega
    go_enter Tryz.func8, Tryz.ntmps8
    go_wp2
    go_loop [4, 5, 8] (fun rv nv kv => ∃ (k a : Nat), 1 ≤ k ∧ k ≤ 3 ∧ nv = .int .i64 3 ∧ kv = .int .i64 k ∧ rv = .int .i64 a ∧ Hid (a = accf s i (by_ s i - 224) k) ∧ Hid (Cont s i k) ∧ Hid (a < 64 ^ k)) (fun _ _ kv => 3 - (intOf kv).toNat)
    case atStart => exact ⟨1, by_ s i - 224, by omega, by omega, rfl, rfl, by rw [HB.out]; have := H1.out; congr 1; omega, rfl, fun j h3 h4 => by omega, by have := H1.out; have := H2.out; show _ < 64 ^ 1; omega⟩
    case round =>
      obtain ⟨k, a, k1, k2, rfl, rfl, rfl, HA, HC, HL⟩ := hrel
      by_cases hk : k < 3
      · have hik : i + k < s.size := by omega
        have hd := by_eq hik
        have hd0 : (s[i + k]'hik).toNat < 256 := by rw [hd]; exact by_lt s (i + k)
        have HD := Lib.hid hd
        have ha : a < 262144 := by
          have h3 := HL.out
          have h4 : (64 : Nat) ^ k ≤ 64 ^ 3 := Nat.pow_le_pow_right (by omega) (by omega)
          have h5 : (64 : Nat) ^ 3 = 262144 := by decide
          omega
        clear hd
        by_cases d1 : (s[i + k]'hik).toNat < 128
        · go_wp2
          go_ret2
          exact ⟨⟨0, 0, rfl, .inl rfl⟩, rfl⟩
        by_cases d2 : 192 ≤ (s[i + k]'hik).toNat
        · go_wp2
          go_ret2
          exact ⟨⟨0, 0, rfl, .inl rfl⟩, rfl⟩
        go_wp2
        go_round
        case rel => exact ⟨k + 1, a * 64 + ((s[i + k]'hik).toNat - 128), by omega, by omega, rfl, by go_num, by congr 1; omega, by
            show _ = _
            rw [accf_step _ _ _ _ k1, ← HA.out, ← HD.out], fun j h3 h4 => by
            rcases Nat.lt_or_ge j k with h5 | h5
            · exact HC.out j h3 h5
            · obtain rfl : j = k := by omega
              rw [← HD.out]; exact ⟨hik, by omega, by omega⟩, by
            have h3 := HL.out
            show _ < 64 ^ (k + 1)
            rw [Nat.pow_succ]
            omega⟩
        case measure => simp [intOf]; omega
      · obtain rfl : k = 3 := by omega
        have ha : a < 16777216 := by
          have h3 := HL.out
          have h4 : (64 : Nat) ^ 3 ≤ 64 ^ 4 := Nat.pow_le_pow_right (by omega) (by omega)
          have h5 : (64 : Nat) ^ 4 = 16777216 := by decide
          omega
        by_cases e1 : a < 2048
        · go_wp2
          go_ret2
          exact ⟨⟨0, 0, rfl, .inl rfl⟩, rfl⟩
        by_cases e2 : 1114111 < a
        · go_wp2
          go_ret2
          exact ⟨⟨0, 0, rfl, .inl rfl⟩, rfl⟩
        by_cases e3 : 55296 ≤ a
        · by_cases e4 : a < 57344
          · first
              | (exfalso; omega)
              | (go_wp2
                 go_ret2
                 exact ⟨⟨0, 0, rfl, .inl rfl⟩, rfl⟩)
          · go_wp2
            go_ret2
            exact ⟨⟨a, 3, rfl, .inr (decodeN 3 224 2048 (by have := H1.out; have := H2.out; omega) (by omega) HC.out a HA.out (by omega) (by omega) (by omega))⟩, rfl⟩
        · first
            | (exfalso; omega)
            | (go_wp2
               go_ret2
               exact ⟨⟨a, 3, rfl, .inr (decodeN 3 224 2048 (by have := H1.out; have := H2.out; omega) (by omega) HC.out a HA.out (by omega) (by omega) (by omega))⟩, rfl⟩)

set_option maxRecDepth 100000 in
set_option maxHeartbeats 3200000 in
theorem point_four (s : ByteArray) (i : Nat) (hi : i < s.size) (hs : s.size ≤ 2147483647) (w : World) (h1 : 240 ≤ by_ s i) (h2 : by_ s i < 248) :
    Calls Tryz.prog 8 #[.string s, .int .i64 i] w fun e w' => PtRes s i w e w' := by
  have hb := by_eq hi
  have HB := Lib.hid hb
  have H1 := Lib.hid h1
  have H2 := Lib.hid h2
  have g1 : 240 ≤ (s[i]'hi).toNat := by rw [hb]; exact h1
  have g2 : (s[i]'hi).toNat < 248 := by rw [hb]; exact h2
  clear hb h1 h2
  by_cases hn : s.size < i + 4
  · go_enter Tryz.func8, Tryz.ntmps8
    go_wp2
    go_ret2
    exact ⟨⟨0, 0, rfl, .inl rfl⟩, rfl⟩
  · have q0 : decide ((s.size : Int) - (i : Int) < 4) = false := by simp; omega
    have ql128 : decide (((s[i]'hi).toNat : Int) < 128) = false := by simp; omega
    have ql224 : decide (((s[i]'hi).toNat : Int) < 224) = false := by simp; omega
    have ql240 : decide (((s[i]'hi).toNat : Int) < 240) = false := by simp; omega
    have ql248 : decide (((s[i]'hi).toNat : Int) < 248) = true := by simp; omega
    have qg192 : decide ((192 : Int) ≤ ((s[i]'hi).toNat : Int)) = true := by simp; omega
    have qg224 : decide ((224 : Int) ≤ ((s[i]'hi).toNat : Int)) = true := by simp; omega
    have qg240 : decide ((240 : Int) ≤ ((s[i]'hi).toNat : Int)) = true := by simp; omega
    go_enter Tryz.func8, Tryz.ntmps8
    go_wp2
    go_loop [4, 5, 8] (fun rv nv kv => ∃ (k a : Nat), 1 ≤ k ∧ k ≤ 4 ∧ nv = .int .i64 4 ∧ kv = .int .i64 k ∧ rv = .int .i64 a ∧ Hid (a = accf s i (by_ s i - 240) k) ∧ Hid (Cont s i k) ∧ Hid (a < 64 ^ k)) (fun _ _ kv => 4 - (intOf kv).toNat)
    case atStart => exact ⟨1, by_ s i - 240, by omega, by omega, rfl, rfl, by rw [HB.out]; have := H1.out; congr 1; omega, rfl, fun j h3 h4 => by omega, by have := H1.out; have := H2.out; show _ < 64 ^ 1; omega⟩
    case round =>
      obtain ⟨k, a, k1, k2, rfl, rfl, rfl, HA, HC, HL⟩ := hrel
      by_cases hk : k < 4
      · have hik : i + k < s.size := by omega
        have hd := by_eq hik
        have hd0 : (s[i + k]'hik).toNat < 256 := by rw [hd]; exact by_lt s (i + k)
        have HD := Lib.hid hd
        have ha : a < 262144 := by
          have h3 := HL.out
          have h4 : (64 : Nat) ^ k ≤ 64 ^ 3 := Nat.pow_le_pow_right (by omega) (by omega)
          have h5 : (64 : Nat) ^ 3 = 262144 := by decide
          omega
        clear hd
        by_cases d1 : (s[i + k]'hik).toNat < 128
        · go_wp2
          go_ret2
          exact ⟨⟨0, 0, rfl, .inl rfl⟩, rfl⟩
        by_cases d2 : 192 ≤ (s[i + k]'hik).toNat
        · go_wp2
          go_ret2
          exact ⟨⟨0, 0, rfl, .inl rfl⟩, rfl⟩
        go_wp2
        go_round
        case rel => exact ⟨k + 1, a * 64 + ((s[i + k]'hik).toNat - 128), by omega, by omega, rfl, by go_num, by congr 1; omega, by
            show _ = _
            rw [accf_step _ _ _ _ k1, ← HA.out, ← HD.out], fun j h3 h4 => by
            rcases Nat.lt_or_ge j k with h5 | h5
            · exact HC.out j h3 h5
            · obtain rfl : j = k := by omega
              rw [← HD.out]; exact ⟨hik, by omega, by omega⟩, by
            have h3 := HL.out
            show _ < 64 ^ (k + 1)
            rw [Nat.pow_succ]
            omega⟩
        case measure => simp [intOf]; omega
      · obtain rfl : k = 4 := by omega
        have ha : a < 16777216 := by
          have h3 := HL.out
          have h4 : (64 : Nat) ^ 4 ≤ 64 ^ 4 := Nat.pow_le_pow_right (by omega) (by omega)
          have h5 : (64 : Nat) ^ 4 = 16777216 := by decide
          omega
        by_cases e1 : a < 65536
        · go_wp2
          go_ret2
          exact ⟨⟨0, 0, rfl, .inl rfl⟩, rfl⟩
        by_cases e2 : 1114111 < a
        · go_wp2
          go_ret2
          exact ⟨⟨0, 0, rfl, .inl rfl⟩, rfl⟩
        by_cases e3 : 55296 ≤ a
        · by_cases e4 : a < 57344
          · first
              | (exfalso; omega)
              | (go_wp2
                 go_ret2
                 exact ⟨⟨0, 0, rfl, .inl rfl⟩, rfl⟩)
          · go_wp2
            go_ret2
            exact ⟨⟨a, 4, rfl, .inr (decodeN 4 240 65536 (by have := H1.out; have := H2.out; omega) (by omega) HC.out a HA.out (by omega) (by omega) (by omega))⟩, rfl⟩
        · first
            | (exfalso; omega)
            | (go_wp2
               go_ret2
               exact ⟨⟨a, 4, rfl, .inr (decodeN 4 240 65536 (by have := H1.out; have := H2.out; omega) (by omega) HC.out a HA.out (by omega) (by omega) (by omega))⟩, rfl⟩)

theorem point_any (s : ByteArray) (i : Nat) (hi : i < s.size) (hs : s.size ≤ 2147483647) (w : World) :
    Calls Tryz.prog 8 #[.string s, .int .i64 i] w fun e w' => PtRes s i w e w' := by
  have h := by_lt s i
  rcases Nat.lt_or_ge (by_ s i) 128 with h1 | h1
  · exact point_one s i hi hs w h1
  rcases Nat.lt_or_ge (by_ s i) 192 with h2 | h2
  · exact point_bad s i hi hs w (.inl ⟨h1, h2⟩)
  rcases Nat.lt_or_ge (by_ s i) 224 with h3 | h3
  · exact point_two s i hi hs w h2 h3
  rcases Nat.lt_or_ge (by_ s i) 240 with h4 | h4
  · exact point_three s i hi hs w h3 h4
  rcases Nat.lt_or_ge (by_ s i) 248 with h5 | h5
  · exact point_four s i hi hs w h4 h5
  · exact point_bad s i hi hs w (.inr h5)
end Go.Proofs.YtpgmnggicmbacaaGreatDoor
