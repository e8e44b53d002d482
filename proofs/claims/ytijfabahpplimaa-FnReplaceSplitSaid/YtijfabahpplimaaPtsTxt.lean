/-
  A text whose code points spec.Units has read is the text of these code points.
-/
import Derived.Test.YtijfabahpplimaaFind
namespace Go.Proofs.Ytijfabahpplimaa
open Go.RowKit

theorem by_ext {a b : ByteArray} (h : a.size = b.size) (hb : ∀ k, k < a.size → by_ a k = by_ b k) : a = b := by
  apply bytes_ext
  rw [Array.toList_inj]
  apply Array.ext
  · exact h
  · intro k h1 h2
    have := hb k h1
    rw [by_data, by_data, Array.getElem?_eq_getElem h1, Array.getElem?_eq_getElem h2] at this
    exact UInt8.toNat_inj.1 this
theorem by_cut {s : ByteArray} {i n k : Nat} (hi : i + n ≤ s.size) (hk : k < n) : by_ (s.extract i (i + n)) k = by_ s (i + k) := by
  rw [by_data, by_data]
  congr 2
  have : (s.extract i (i + n)).data = s.data.extract i (i + n) := by simp [ByteArray.data_extract]
  rw [this, Array.getElem?_extract]
  rw [if_pos (by have : s.size = s.data.size := rfl; omega)]
theorem cut_size {s : ByteArray} {i n : Nat} (hi : i + n ≤ s.size) : (s.extract i (i + n)).size = n := by
  rw [ByteArray.size_extract]; omega

theorem dec_eq (s : ByteArray) (i : Nat) : Utf8.decode s i = (if by_ s i < 0x80 then (by_ s i, 1) else
    if (by_ s i / 32 == 6 && (decide (i + 1 < s.size) && by_ s (i + 1) / 64 == 2)) = true then
      if by_ s i % 32 * 64 + by_ s (i + 1) % 64 ≥ 0x80 then (by_ s i % 32 * 64 + by_ s (i + 1) % 64, 2) else (Utf8.runeError, 1)
    else if (by_ s i / 16 == 14 && (decide (i + 1 < s.size) && by_ s (i + 1) / 64 == 2) && (decide (i + 2 < s.size) && by_ s (i + 2) / 64 == 2)) = true then
      if (decide (by_ s i % 16 * 4096 + by_ s (i + 1) % 64 * 64 + by_ s (i + 2) % 64 ≥ 0x800) && Utf8.valid (by_ s i % 16 * 4096 + by_ s (i + 1) % 64 * 64 + by_ s (i + 2) % 64 : Nat)) = true then (by_ s i % 16 * 4096 + by_ s (i + 1) % 64 * 64 + by_ s (i + 2) % 64, 3) else (Utf8.runeError, 1)
    else if (by_ s i / 8 == 30 && (decide (i + 1 < s.size) && by_ s (i + 1) / 64 == 2) && (decide (i + 2 < s.size) && by_ s (i + 2) / 64 == 2) && (decide (i + 3 < s.size) && by_ s (i + 3) / 64 == 2)) = true then
      if (decide (by_ s i % 8 * 262144 + by_ s (i + 1) % 64 * 4096 + by_ s (i + 2) % 64 * 64 + by_ s (i + 3) % 64 ≥ 0x10000) && Utf8.valid (by_ s i % 8 * 262144 + by_ s (i + 1) % 64 * 4096 + by_ s (i + 2) % 64 * 64 + by_ s (i + 3) % 64 : Nat)) = true then (by_ s i % 8 * 262144 + by_ s (i + 1) % 64 * 4096 + by_ s (i + 2) % 64 * 64 + by_ s (i + 3) % 64, 4) else (Utf8.runeError, 1)
    else (Utf8.runeError, 1)) := by
  unfold Utf8.decode
  simp only [Nat.add_zero]
  rfl

theorem size_of_data {E : ByteArray} {a : Array UInt8} (h : E.data = a) : E.size = a.size := by rw [← h]; rfl
theorem by_of_data {E : ByteArray} {a : Array UInt8} (h : E.data = a) (k : Nat) (b : UInt8) (hb : a[k]? = some b) : by_ E k = b.toNat := by
  rw [by_data, h, hb]; rfl
theorem enc_one {r : Nat} (h : Scal r) (c : r < 128) : (enc r).size = 1 ∧ by_ (enc r) 0 = r := by
  have hd := enc_data h
  rw [if_pos c] at hd
  exact ⟨size_of_data hd, by rw [by_of_data hd 0 _ rfl]; exact u8_nat (by omega)⟩
theorem enc_two {r : Nat} (h : Scal r) (c1 : ¬ r < 128) (c : r < 2048) : (enc r).size = 2 ∧ by_ (enc r) 0 = 192 + r / 64 ∧ by_ (enc r) 1 = 128 + r % 64 := by
  have hd := enc_data h
  rw [if_neg c1, if_pos c] at hd
  exact ⟨size_of_data hd, by rw [by_of_data hd 0 _ rfl]; exact u8_nat (by omega), by rw [by_of_data hd 1 _ rfl]; exact u8_nat (by omega)⟩
theorem enc_three {r : Nat} (h : Scal r) (c1 : ¬ r < 2048) (c : r < 65536) : (enc r).size = 3 ∧ by_ (enc r) 0 = 224 + r / 4096 ∧ by_ (enc r) 1 = 128 + r / 64 % 64 ∧ by_ (enc r) 2 = 128 + r % 64 := by
  have hd := enc_data h
  rw [if_neg (by omega), if_neg c1, if_pos c] at hd
  exact ⟨size_of_data hd, by rw [by_of_data hd 0 _ rfl]; exact u8_nat (by omega), by rw [by_of_data hd 1 _ rfl]; exact u8_nat (by omega), by rw [by_of_data hd 2 _ rfl]; exact u8_nat (by omega)⟩
theorem enc_four {r : Nat} (h : Scal r) (c1 : ¬ r < 65536) : (enc r).size = 4 ∧ by_ (enc r) 0 = 240 + r / 262144 ∧ by_ (enc r) 1 = 128 + r / 4096 % 64 ∧ by_ (enc r) 2 = 128 + r / 64 % 64 ∧ by_ (enc r) 3 = 128 + r % 64 := by
  have hd := enc_data h
  have h2 : r ≤ 1114111 := h.1
  rw [if_neg (by omega), if_neg (by omega), if_neg c1] at hd
  exact ⟨size_of_data hd, by rw [by_of_data hd 0 _ rfl]; exact u8_nat (by omega), by rw [by_of_data hd 1 _ rfl]; exact u8_nat (by omega), by rw [by_of_data hd 2 _ rfl]; exact u8_nat (by omega), by rw [by_of_data hd 3 _ rfl]; exact u8_nat (by omega)⟩

theorem pt_enc {s : ByteArray} {i r n : Nat} (h : PtOk s i r n) : s.extract i (i + n) = enc r ∧ Scal r := by
  obtain ⟨h1, h2, h3, h4, h5⟩ := h
  have hsc : Scal r := by have := decode_scal s i; rw [h3] at this; exact this
  refine ⟨?_, hsc⟩
  have hb0 := by_lt s i
  rw [dec_eq] at h3
  have he : Utf8.runeError = 65533 := rfl
  rw [he] at h3
  apply by_ext
  · rw [cut_size h2]
    repeat' split at h3
    all_goals (injection h3 with e1 e2)
    · rw [(enc_one hsc (by omega)).1]; omega
    · rename_i c1 c2 c3
      simp only [Bool.and_eq_true, beq_iff_eq, decide_eq_true_eq] at c2
      rw [(enc_two hsc (by omega) (by omega)).1]; omega
    · omega
    · rename_i c1 c2 c3 c4
      simp only [Bool.and_eq_true, beq_iff_eq, decide_eq_true_eq] at c3 c4
      rw [(enc_three hsc (by omega) (by omega)).1]; omega
    · omega
    · rename_i c1 c2 c3 c4 c5
      simp only [Bool.and_eq_true, beq_iff_eq, decide_eq_true_eq] at c4 c5
      rw [(enc_four hsc (by omega)).1]; omega
    · omega
    · omega
  · intro k hk
    rw [cut_size h2] at hk
    rw [by_cut h2 hk]
    repeat' split at h3
    all_goals (injection h3 with e1 e2)
    · obtain rfl : k = 0 := by omega
      rw [(enc_one hsc (by omega)).2]; exact e1
    · rename_i c1 c2 c3
      simp only [Bool.and_eq_true, beq_iff_eq, decide_eq_true_eq] at c2
      obtain ⟨-, a0, a1⟩ := enc_two hsc (by omega) (by omega)
      obtain rfl | rfl : k = 0 ∨ k = 1 := by omega
      · rw [a0, Nat.add_zero]; omega
      · rw [a1]; omega
    · omega
    · rename_i c1 c2 c3 c4
      simp only [Bool.and_eq_true, beq_iff_eq, decide_eq_true_eq] at c3 c4
      obtain ⟨-, a0, a1, a2⟩ := enc_three hsc (by omega) (by omega)
      obtain rfl | rfl | rfl : k = 0 ∨ k = 1 ∨ k = 2 := by omega
      · rw [a0, Nat.add_zero]; omega
      · rw [a1]; omega
      · rw [a2]; omega
    · omega
    · rename_i c1 c2 c3 c4 c5
      simp only [Bool.and_eq_true, beq_iff_eq, decide_eq_true_eq] at c4 c5
      obtain ⟨-, a0, a1, a2, a3⟩ := enc_four hsc (by omega)
      obtain rfl | rfl | rfl | rfl : k = 0 ∨ k = 1 ∨ k = 2 ∨ k = 3 := by omega
      · rw [a0, Nat.add_zero]; omega
      · rw [a1]; omega
      · rw [a2]; omega
      · rw [a3]; omega
    · omega
    · omega

theorem pts_text {s : ByteArray} {i : Nat} {l : List Nat} (h : Pts s i l) : i ≤ s.size ∧ Scals l ∧ text l = s.extract 0 i := by
  induction h with
  | nil => exact ⟨Nat.zero_le _, (fun _ h => absurd h List.not_mem_nil), by rw [text_nil]; apply bytes_ext; simp⟩
  | snoc h hp ih =>
    rename_i i r n l
    obtain ⟨h1, h2, h3⟩ := ih
    obtain ⟨e1, e2⟩ := pt_enc hp
    have hn := hp.2.1
    refine ⟨hn, Scals.append h2 (fun x hx => by rw [List.mem_singleton] at hx; subst hx; exact e2), ?_⟩
    rw [text_snoc, h3, ← e1, ByteArray.extract_append_extract]
    rw [show min 0 i = 0 by omega, show max i (i + n) = i + n by omega]
theorem pts_txt {s : ByteArray} {l : List Nat} (h : Pts s s.size l) : Txt s := by
  obtain ⟨-, h2, h3⟩ := pts_text h
  rw [ByteArray.extract_zero_size] at h3
  exact ⟨l, h2, h3⟩
end Go.Proofs.Ytijfabahpplimaa
