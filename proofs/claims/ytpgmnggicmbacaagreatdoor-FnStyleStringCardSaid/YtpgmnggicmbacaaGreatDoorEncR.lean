/-
  Code points and their bytes: what is written is read back, what is read was written so. (After the texts Enc and PtsTxt of another seat.)
-/
import Derived.Test.YtpgmnggicmbacaaGreatDoorReadable
import Derived.WideShapes
import Derived.Laws.Cover4
namespace Go.Proofs.YtpgmnggicmbacaaGreatDoor
open Go.RowKit

theorem bytes_ext {a b : ByteArray} (h : a.data.toList = b.data.toList) : a = b := WideShapes.bytes_inj h
/-- A code point that stands for itself. -/
def Scal (r : Nat) : Prop := r ≤ 1114111 ∧ ¬ (55296 ≤ r ∧ r < 57344)
def enc (r : Nat) : ByteArray := Utf8.encode (Int.ofNat r)
def text (l : List Nat) : ByteArray := runesBytes (l.map Int.ofNat)

theorem text_nil : text [] = ByteArray.empty := rfl
theorem text_snoc (l : List Nat) (r : Nat) : text (l ++ [r]) = text l ++ enc r := by
  simp [text, runesBytes, enc]

theorem by_data (s : ByteArray) (i : Nat) : by_ s i = (s.data[i]?.getD default).toNat := by
  unfold by_
  show (s.data[i]!).toNat = _
  rw [getElem!_def]
  cases s.data[i]? <;> rfl
theorem by_mid (p e q : ByteArray) (k : Nat) (hk : k < e.size) : by_ (p ++ e ++ q) (p.size + k) = by_ e k := by
  have hk' : k < e.data.size := hk
  have hp : p.size = p.data.size := rfl
  rw [by_data, by_data]
  congr 2
  simp only [ByteArray.data_append]
  rw [Array.getElem?_append_left (by rw [Array.size_append]; omega), Array.getElem?_append_right (by omega), hp]
  congr 1
  omega

theorem valid_scal {r : Nat} (h : Scal r) : Utf8.valid (Int.ofNat r) = true := by
  unfold Scal at h
  have e : (Int.ofNat r) = (r : Int) := rfl
  simp [Utf8.valid]; omega

theorem enc_data {r : Nat} (h : Scal r) : (enc r).data = if r < 128 then #[UInt8.ofNat r] else if r < 2048 then #[UInt8.ofNat (192 + r / 64), UInt8.ofNat (128 + r % 64)]
    else if r < 65536 then #[UInt8.ofNat (224 + r / 4096), UInt8.ofNat (128 + r / 64 % 64), UInt8.ofNat (128 + r % 64)]
    else #[UInt8.ofNat (240 + r / 262144), UInt8.ofNat (128 + r / 4096 % 64), UInt8.ofNat (128 + r / 64 % 64), UInt8.ofNat (128 + r % 64)] := by
  unfold enc Utf8.encode
  have e : (Int.ofNat r).toNat = r := rfl
  simp only [valid_scal h, if_true, e]
  repeat' split
  all_goals rfl

theorem u8_nat {n : Nat} (h : n < 256) : (UInt8.ofNat n).toNat = n := by rw [UInt8.toNat_ofNat']; omega
theorem enc_pt {r : Nat} (h : Scal r) (p q : ByteArray) : PtOk (p ++ enc r ++ q) p.size r (enc r).size := by
  have hd := enc_data h
  have hsz : (p ++ enc r ++ q).size = p.size + (enc r).size + q.size := by simp [ByteArray.size_append]
  have hb : ∀ k, k < (enc r).size → by_ (p ++ enc r ++ q) (p.size + k) = ((enc r).data[k]?.getD default).toNat := fun k hk => by rw [by_mid p _ q k hk, by_data]
  have h2 := h
  unfold Scal at h2
  generalize p ++ enc r ++ q = s at *
  have hs : ∀ b : ByteArray, b.size = b.data.size := fun _ => rfl
  rw [hs (enc r)] at hsz hb ⊢
  rw [hd] at hsz hb ⊢
  clear hd hs
  by_cases c1 : r < 128
  · rw [if_pos c1] at hsz hb ⊢
    have b0 := hb 0 (by simp)
    simp only [Nat.add_zero] at b0
    have e0 : by_ s p.size = r := by rw [b0]; exact u8_nat (by omega)
    have := decode1 (s := s) (i := p.size) (by simp at hsz; omega) (by omega)
    rw [e0] at this
    exact this
  · rw [if_neg c1] at hsz hb ⊢
    by_cases c2 : r < 2048
    · rw [if_pos c2] at hsz hb ⊢
      have b0 := hb 0 (by simp)
      have b1 := hb 1 (by simp)
      simp only [Nat.add_zero] at b0
      have e0 : by_ s p.size = 192 + r / 64 := by rw [b0]; exact u8_nat (by omega)
      have e1 : by_ s (p.size + 1) = 128 + r % 64 := by rw [b1]; exact u8_nat (by omega)
      simp at hsz
      refine decodeN 2 192 128 (.inl ⟨rfl, rfl, rfl, by omega, by omega⟩) (by omega) ?_ r ?_ (by omega) (by omega) h2.2
      · intro j h3 h4
        obtain rfl : j = 1 := by omega
        omega
      · rw [accf2, e0, e1]; omega
    · rw [if_neg c2] at hsz hb ⊢
      by_cases c3 : r < 65536
      · rw [if_pos c3] at hsz hb ⊢
        have b0 := hb 0 (by simp)
        have b1 := hb 1 (by simp)
        have b2 := hb 2 (by simp)
        simp only [Nat.add_zero] at b0
        have e0 : by_ s p.size = 224 + r / 4096 := by rw [b0]; exact u8_nat (by omega)
        have e1 : by_ s (p.size + 1) = 128 + r / 64 % 64 := by rw [b1]; exact u8_nat (by omega)
        have e2 : by_ s (p.size + 2) = 128 + r % 64 := by rw [b2]; exact u8_nat (by omega)
        simp at hsz
        refine decodeN 3 224 2048 (.inr (.inl ⟨rfl, rfl, rfl, by omega, by omega⟩)) (by omega) ?_ r ?_ (by omega) (by omega) h2.2
        · intro j h3 h4
          obtain rfl | rfl : j = 1 ∨ j = 2 := by omega
          · omega
          · omega
        · rw [accf3, e0, e1, e2]; omega
      · rw [if_neg c3] at hsz hb ⊢
        have b0 := hb 0 (by simp)
        have b1 := hb 1 (by simp)
        have b2 := hb 2 (by simp)
        have b3 := hb 3 (by simp)
        simp only [Nat.add_zero] at b0
        have e0 : by_ s p.size = 240 + r / 262144 := by rw [b0]; exact u8_nat (by omega)
        have e1 : by_ s (p.size + 1) = 128 + r / 4096 % 64 := by rw [b1]; exact u8_nat (by omega)
        have e2 : by_ s (p.size + 2) = 128 + r / 64 % 64 := by rw [b2]; exact u8_nat (by omega)
        have e3 : by_ s (p.size + 3) = 128 + r % 64 := by rw [b3]; exact u8_nat (by omega)
        simp at hsz
        refine decodeN 4 240 65536 (.inr (.inr ⟨rfl, rfl, rfl, by omega, by omega⟩)) (by omega) ?_ r ?_ (by omega) (by omega) h2.2
        · intro j h3 h4
          obtain rfl | rfl | rfl : j = 1 ∨ j = 2 ∨ j = 3 := by omega
          · omega
          · omega
          · omega
        · rw [accf4, e0, e1, e2, e3]; omega

theorem decode_scal (s : ByteArray) (i : Nat) : Scal (Utf8.decode s i).1 := by
  have hv : ∀ c : Nat, Utf8.valid (c : Int) = true → Scal c := by
    intro c hc
    simp [Utf8.valid] at hc
    unfold Scal; omega
  have he : Scal Utf8.runeError := by unfold Scal Utf8.runeError; omega
  unfold Utf8.decode
  simp only
  repeat' split
  all_goals first
    | exact he
    | (rename_i h; unfold Scal; simp only; omega)
    | (rename_i h; simp only [Bool.and_eq_true] at h; exact hv _ h.2)
    | (unfold Scal; simp only; have h1 := UInt8.toNat_lt (s.get! i); have h2 := UInt8.toNat_lt (s.get! (i + 1)); omega)
theorem by_ext {a b : ByteArray} (h : a.size = b.size) (hb : ∀ k, k < a.size → by_ a k = by_ b k) : a = b := by
  apply bytes_ext
  rw [Array.toList_inj]
  apply Array.ext
  · exact h
  · intro k h1 h2
    have := hb k h1
    rw [by_data, by_data, Array.getElem?_eq_getElem h1, Array.getElem?_eq_getElem h2] at this
    exact UInt8.toNat_inj.1 this
theorem by_cut {s : ByteArray} {i n k : Nat} (hi : i + n ≤ s.size) (hk : k < n) : by_ (s.extract i (i + n)) k = by_ s (i + k) := by
  rw [by_data, by_data]
  congr 2
  have : (s.extract i (i + n)).data = s.data.extract i (i + n) := by simp [ByteArray.data_extract]
  rw [this, Array.getElem?_extract]
  rw [if_pos (by have : s.size = s.data.size := rfl; omega)]
theorem cut_size {s : ByteArray} {i n : Nat} (hi : i + n ≤ s.size) : (s.extract i (i + n)).size = n := by
  rw [ByteArray.size_extract]; omega

theorem dec_eq (s : ByteArray) (i : Nat) : Utf8.decode s i = (if by_ s i < 0x80 then (by_ s i, 1) else
    if (by_ s i / 32 == 6 && (decide (i + 1 < s.size) && by_ s (i + 1) / 64 == 2)) = true then
      if by_ s i % 32 * 64 + by_ s (i + 1) % 64 ≥ 0x80 then (by_ s i % 32 * 64 + by_ s (i + 1) % 64, 2) else (Utf8.runeError, 1)
    else if (by_ s i / 16 == 14 && (decide (i + 1 < s.size) && by_ s (i + 1) / 64 == 2) && (decide (i + 2 < s.size) && by_ s (i + 2) / 64 == 2)) = true then
      if (decide (by_ s i % 16 * 4096 + by_ s (i + 1) % 64 * 64 + by_ s (i + 2) % 64 ≥ 0x800) && Utf8.valid (by_ s i % 16 * 4096 + by_ s (i + 1) % 64 * 64 + by_ s (i + 2) % 64 : Nat)) = true then (by_ s i % 16 * 4096 + by_ s (i + 1) % 64 * 64 + by_ s (i + 2) % 64, 3) else (Utf8.runeError, 1)
    else if (by_ s i / 8 == 30 && (decide (i + 1 < s.size) && by_ s (i + 1) / 64 == 2) && (decide (i + 2 < s.size) && by_ s (i + 2) / 64 == 2) && (decide (i + 3 < s.size) && by_ s (i + 3) / 64 == 2)) = true then
      if (decide (by_ s i % 8 * 262144 + by_ s (i + 1) % 64 * 4096 + by_ s (i + 2) % 64 * 64 + by_ s (i + 3) % 64 ≥ 0x10000) && Utf8.valid (by_ s i % 8 * 262144 + by_ s (i + 1) % 64 * 4096 + by_ s (i + 2) % 64 * 64 + by_ s (i + 3) % 64 : Nat)) = true then (by_ s i % 8 * 262144 + by_ s (i + 1) % 64 * 4096 + by_ s (i + 2) % 64 * 64 + by_ s (i + 3) % 64, 4) else (Utf8.runeError, 1)
    else (Utf8.runeError, 1)) := by
  unfold Utf8.decode
  simp only [Nat.add_zero]
  rfl

theorem size_of_data {E : ByteArray} {a : Array UInt8} (h : E.data = a) : E.size = a.size := by rw [← h]; rfl
theorem by_of_data {E : ByteArray} {a : Array UInt8} (h : E.data = a) (k : Nat) (b : UInt8) (hb : a[k]? = some b) : by_ E k = b.toNat := by
  rw [by_data, h, hb]; rfl
theorem enc_one {r : Nat} (h : Scal r) (c : r < 128) : (enc r).size = 1 ∧ by_ (enc r) 0 = r := by
  have hd := enc_data h
  rw [if_pos c] at hd
  exact ⟨size_of_data hd, by rw [by_of_data hd 0 _ rfl]; exact u8_nat (by omega)⟩
theorem enc_two {r : Nat} (h : Scal r) (c1 : ¬ r < 128) (c : r < 2048) : (enc r).size = 2 ∧ by_ (enc r) 0 = 192 + r / 64 ∧ by_ (enc r) 1 = 128 + r % 64 := by
  have hd := enc_data h
  rw [if_neg c1, if_pos c] at hd
  exact ⟨size_of_data hd, by rw [by_of_data hd 0 _ rfl]; exact u8_nat (by omega), by rw [by_of_data hd 1 _ rfl]; exact u8_nat (by omega)⟩
theorem enc_three {r : Nat} (h : Scal r) (c1 : ¬ r < 2048) (c : r < 65536) : (enc r).size = 3 ∧ by_ (enc r) 0 = 224 + r / 4096 ∧ by_ (enc r) 1 = 128 + r / 64 % 64 ∧ by_ (enc r) 2 = 128 + r % 64 := by
  have hd := enc_data h
  rw [if_neg (by omega), if_neg c1, if_pos c] at hd
  exact ⟨size_of_data hd, by rw [by_of_data hd 0 _ rfl]; exact u8_nat (by omega), by rw [by_of_data hd 1 _ rfl]; exact u8_nat (by omega), by rw [by_of_data hd 2 _ rfl]; exact u8_nat (by omega)⟩
theorem enc_four {r : Nat} (h : Scal r) (c1 : ¬ r < 65536) : (enc r).size = 4 ∧ by_ (enc r) 0 = 240 + r / 262144 ∧ by_ (enc r) 1 = 128 + r / 4096 % 64 ∧ by_ (enc r) 2 = 128 + r / 64 % 64 ∧ by_ (enc r) 3 = 128 + r % 64 := by
  have hd := enc_data h
  have h2 : r ≤ 1114111 := h.1
  rw [if_neg (by omega), if_neg (by omega), if_neg c1] at hd
  exact ⟨size_of_data hd, by rw [by_of_data hd 0 _ rfl]; exact u8_nat (by omega), by rw [by_of_data hd 1 _ rfl]; exact u8_nat (by omega), by rw [by_of_data hd 2 _ rfl]; exact u8_nat (by omega), by rw [by_of_data hd 3 _ rfl]; exact u8_nat (by omega)⟩

theorem pt_enc {s : ByteArray} {i r n : Nat} (h : PtOk s i r n) : s.extract i (i + n) = enc r ∧ Scal r := by
  obtain ⟨h1, h2, h3, h4, h5⟩ := h
  have hsc : Scal r := by have := decode_scal s i; rw [h3] at this; exact this
  refine ⟨?_, hsc⟩
  have hb0 := by_lt s i
  rw [dec_eq] at h3
  have he : Utf8.runeError = 65533 := rfl
  rw [he] at h3
  apply by_ext
  · rw [cut_size h2]
    repeat' split at h3
    all_goals (injection h3 with e1 e2)
    · rw [(enc_one hsc (by omega)).1]; omega
    · rename_i c1 c2 c3
      simp only [Bool.and_eq_true, beq_iff_eq, decide_eq_true_eq] at c2
      rw [(enc_two hsc (by omega) (by omega)).1]; omega
    · omega
    · rename_i c1 c2 c3 c4
      simp only [Bool.and_eq_true, beq_iff_eq, decide_eq_true_eq] at c3 c4
      rw [(enc_three hsc (by omega) (by omega)).1]; omega
    · omega
    · rename_i c1 c2 c3 c4 c5
      simp only [Bool.and_eq_true, beq_iff_eq, decide_eq_true_eq] at c4 c5
      rw [(enc_four hsc (by omega)).1]; omega
    · omega
    · omega
  · intro k hk
    rw [cut_size h2] at hk
    rw [by_cut h2 hk]
    repeat' split at h3
    all_goals (injection h3 with e1 e2)
    · obtain rfl : k = 0 := by omega
      rw [(enc_one hsc (by omega)).2]; exact e1
    · rename_i c1 c2 c3
      simp only [Bool.and_eq_true, beq_iff_eq, decide_eq_true_eq] at c2
      obtain ⟨-, a0, a1⟩ := enc_two hsc (by omega) (by omega)
      obtain rfl | rfl : k = 0 ∨ k = 1 := by omega
      · rw [a0, Nat.add_zero]; omega
      · rw [a1]; omega
    · omega
    · rename_i c1 c2 c3 c4
      simp only [Bool.and_eq_true, beq_iff_eq, decide_eq_true_eq] at c3 c4
      obtain ⟨-, a0, a1, a2⟩ := enc_three hsc (by omega) (by omega)
      obtain rfl | rfl | rfl : k = 0 ∨ k = 1 ∨ k = 2 := by omega
      · rw [a0, Nat.add_zero]; omega
      · rw [a1]; omega
      · rw [a2]; omega
    · omega
    · rename_i c1 c2 c3 c4 c5
      simp only [Bool.and_eq_true, beq_iff_eq, decide_eq_true_eq] at c4 c5
      obtain ⟨-, a0, a1, a2, a3⟩ := enc_four hsc (by omega)
      obtain rfl | rfl | rfl | rfl : k = 0 ∨ k = 1 ∨ k = 2 ∨ k = 3 := by omega
      · rw [a0, Nat.add_zero]; omega
      · rw [a1]; omega
      · rw [a2]; omega
      · rw [a3]; omega
    · omega
    · omega

end Go.Proofs.YtpgmnggicmbacaaGreatDoor
