/-
  spec.point: if it says that there is a code point, the language's own decoding says the same.
-/
import Derived.Test.YtpgmnggicmbacaaGreatDoorWords
import Derived.Test.YtpgmnggicmbacaaGreatDoorProg
namespace Go.Proofs.YtpgmnggicmbacaaGreatDoor
open Go.RowKit

def by_ (s : ByteArray) (i : Nat) : Nat := (s.get! i).toNat
theorem by_eq {s : ByteArray} {i : Nat} (h : i < s.size) : (s[i]'h).toNat = by_ s i := by
  unfold by_
  have : s.get! i = s[i] := by
    show s.data[i]! = s.data[i]
    exact getElem!_pos s.data i h
  rw [this]
theorem by_lt (s : ByteArray) (i : Nat) : by_ s i < 256 := UInt8.toNat_lt _

/-- What the bytes behind the first one make of it. -/
def accf (s : ByteArray) (i r0 : Nat) : Nat → Nat
  | 0 => r0
  | 1 => r0
  | k + 2 => accf s i r0 (k + 1) * 64 + (by_ s (i + (k + 1)) - 128)
def Cont (s : ByteArray) (i k : Nat) : Prop := ∀ j, 1 ≤ j → j < k → i + j < s.size ∧ 128 ≤ by_ s (i + j) ∧ by_ s (i + j) < 192

def PtOk (s : ByteArray) (i r n : Nat) : Prop := 0 < n ∧ i + n ≤ s.size ∧ Utf8.decode s i = (r, n) ∧ r ≤ 1114111 ∧ (n = 1 → r < 128)

theorem decode1 {s : ByteArray} {i : Nat} (hi : i < s.size) (h : by_ s i < 128) : PtOk s i (by_ s i) 1 := by
  refine ⟨by omega, by omega, ?_, by omega, fun _ => h⟩
  unfold Utf8.decode
  simp only [Nat.add_zero]
  show (if by_ s i < 0x80 then _ else _) = _
  rw [if_pos h]; rfl
theorem accf2 (s : ByteArray) (i r0 : Nat) : accf s i r0 2 = r0 * 64 + (by_ s (i + 1) - 128) := rfl
theorem accf3 (s : ByteArray) (i r0 : Nat) : accf s i r0 3 = (r0 * 64 + (by_ s (i + 1) - 128)) * 64 + (by_ s (i + 2) - 128) := rfl
theorem accf4 (s : ByteArray) (i r0 : Nat) : accf s i r0 4 = ((r0 * 64 + (by_ s (i + 1) - 128)) * 64 + (by_ s (i + 2) - 128)) * 64 + (by_ s (i + 3) - 128) := rfl
theorem decodeN {s : ByteArray} {i : Nat} (n base least : Nat) (hc : n = 2 ∧ base = 192 ∧ least = 128 ∧ 192 ≤ by_ s i ∧ by_ s i < 224 ∨ n = 3 ∧ base = 224 ∧ least = 2048 ∧ 224 ≤ by_ s i ∧ by_ s i < 240 ∨ n = 4 ∧ base = 240 ∧ least = 65536 ∧ 240 ≤ by_ s i ∧ by_ s i < 248)
    (hn : i + n ≤ s.size) (hcont : Cont s i n) (r : Nat) (hr : r = accf s i (by_ s i - base) n) (h1 : least ≤ r) (h2 : r ≤ 1114111) (h3 : ¬ (55296 ≤ r ∧ r < 57344)) : PtOk s i r n := by
  refine ⟨by omega, hn, ?_, h2, by omega⟩
  unfold Utf8.decode
  simp only [Nat.add_zero]
  show (if by_ s i < 0x80 then (by_ s i, 1) else
    if (by_ s i / 32 == 6 && (decide (i + 1 < s.size) && by_ s (i + 1) / 64 == 2)) = true then
      if by_ s i % 32 * 64 + by_ s (i + 1) % 64 ≥ 0x80 then (by_ s i % 32 * 64 + by_ s (i + 1) % 64, 2) else (Utf8.runeError, 1)
    else if (by_ s i / 16 == 14 && (decide (i + 1 < s.size) && by_ s (i + 1) / 64 == 2) && (decide (i + 2 < s.size) && by_ s (i + 2) / 64 == 2)) = true then
      if (decide (by_ s i % 16 * 4096 + by_ s (i + 1) % 64 * 64 + by_ s (i + 2) % 64 ≥ 0x800) && Utf8.valid (by_ s i % 16 * 4096 + by_ s (i + 1) % 64 * 64 + by_ s (i + 2) % 64 : Nat)) = true then (by_ s i % 16 * 4096 + by_ s (i + 1) % 64 * 64 + by_ s (i + 2) % 64, 3) else (Utf8.runeError, 1)
    else if (by_ s i / 8 == 30 && (decide (i + 1 < s.size) && by_ s (i + 1) / 64 == 2) && (decide (i + 2 < s.size) && by_ s (i + 2) / 64 == 2) && (decide (i + 3 < s.size) && by_ s (i + 3) / 64 == 2)) = true then
      if (decide (by_ s i % 8 * 262144 + by_ s (i + 1) % 64 * 4096 + by_ s (i + 2) % 64 * 64 + by_ s (i + 3) % 64 ≥ 0x10000) && Utf8.valid (by_ s i % 8 * 262144 + by_ s (i + 1) % 64 * 4096 + by_ s (i + 2) % 64 * 64 + by_ s (i + 3) % 64 : Nat)) = true then (by_ s i % 8 * 262144 + by_ s (i + 1) % 64 * 4096 + by_ s (i + 2) % 64 * 64 + by_ s (i + 3) % 64, 4) else (Utf8.runeError, 1)
    else (Utf8.runeError, 1)) = (r, n)
  have hv : Utf8.valid (r : Nat) = true := by
    simp [Utf8.valid]; omega
  rcases hc with ⟨rfl, rfl, rfl, c1, c2⟩ | ⟨rfl, rfl, rfl, c1, c2⟩ | ⟨rfl, rfl, rfl, c1, c2⟩
  · obtain ⟨k1, k2, k3⟩ := hcont 1 (by omega) (by omega)
    have e : by_ s i % 32 * 64 + by_ s (i + 1) % 64 = r := by rw [hr, accf2]; omega
    rw [if_neg (by omega), if_pos (by simp; omega), e, if_pos h1]
  · obtain ⟨k1, k2, k3⟩ := hcont 1 (by omega) (by omega)
    obtain ⟨l1, l2, l3⟩ := hcont 2 (by omega) (by omega)
    have e : by_ s i % 16 * 4096 + by_ s (i + 1) % 64 * 64 + by_ s (i + 2) % 64 = r := by rw [hr, accf3]; omega
    rw [if_neg (by omega), if_neg (by simp; omega), if_pos (by simp; omega), e, if_pos (by rw [hv]; simp; exact h1)]
  · obtain ⟨k1, k2, k3⟩ := hcont 1 (by omega) (by omega)
    obtain ⟨l1, l2, l3⟩ := hcont 2 (by omega) (by omega)
    obtain ⟨m1, m2, m3⟩ := hcont 3 (by omega) (by omega)
    have e : by_ s i % 8 * 262144 + by_ s (i + 1) % 64 * 4096 + by_ s (i + 2) % 64 * 64 + by_ s (i + 3) % 64 = r := by rw [hr, accf4]; omega
    rw [if_neg (by omega), if_neg (by simp; omega), if_neg (by simp; omega), if_pos (by simp; omega), e, if_pos (by rw [hv]; simp; exact h1)]
end Go.Proofs.YtpgmnggicmbacaaGreatDoor
