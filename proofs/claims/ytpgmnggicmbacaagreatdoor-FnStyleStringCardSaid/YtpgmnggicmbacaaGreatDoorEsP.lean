/-
  Escapes, in plain Lean: what the language makes of them byte by byte, what the package makes of them rune by rune, and what the package writes.
-/
import Derived.Test.YtpgmnggicmbacaaGreatDoorUtf
import Derived.Lib.RuneBytes
namespace Go.Proofs.YtpgmnggicmbacaaGreatDoor
open Go.RowKit

/-- A hexadecimal digit's value. -/
def hexV (c : Nat) : Option Nat := if 48 ≤ c ∧ c ≤ 57 then some (c - 48) else if 97 ≤ c ∧ c ≤ 102 then some (c - 87) else if 65 ≤ c ∧ c ≤ 70 then some (c - 55) else none
/-- The value of the first k digits. -/
def hxk (s : ByteArray) (i : Nat) : Nat → Option Nat
  | 0 => some 0
  | k + 1 => (hxk s i k).bind fun a => (hexV (by_ s (i + k))).map fun d => 16 * a + d
def hx4 (s : ByteArray) (i : Nat) : Option Nat := if i + 4 ≤ s.size then hxk s i 4 else none
theorem hexV_lt {c d : Nat} (h : hexV c = some d) : d < 16 := by
  unfold hexV at h
  repeat' split at h
  all_goals first | (injection h with h; omega) | (cases h)
theorem hxk_lt {s : ByteArray} {i : Nat} : ∀ {k a : Nat}, hxk s i k = some a → a < 16 ^ k
  | 0, a, h => by simp [hxk] at h; subst h; simp
  | k + 1, a, h => by
    simp only [hxk, Option.bind_eq_some_iff, Option.map_eq_some_iff] at h
    obtain ⟨b, h1, d, h2, rfl⟩ := h
    have h3 := hxk_lt h1
    have h4 := hexV_lt h2
    rw [Nat.pow_succ]
    omega
theorem hxk_none {s : ByteArray} {i : Nat} : ∀ {k m : Nat}, hxk s i k = none → k ≤ m → hxk s i m = none
  | k, 0, h, hm => by
    obtain rfl : k = 0 := by omega
    exact h
  | k, m + 1, h, hm => by
    by_cases e : k = m + 1
    · rw [← e]; exact h
    · rw [hxk, hxk_none h (by omega)]; rfl
theorem hx4_lt {s : ByteArray} {i a : Nat} (h : hx4 s i = some a) : a < 65536 := by
  unfold hx4 at h
  split at h
  · exact hxk_lt h
  · cases h
/-- A backslash and a u. -/
def startsU (s : ByteArray) (i : Nat) : Bool := decide (i + 2 ≤ s.size) && (by_ s i == 92) && (by_ s (i + 1) == 117)
/-- The language's code point of hexadecimal digits, and how many bytes it takes. -/
def uniF (s : ByteArray) (i : Nat) : Option (Nat × Nat) :=
  match hx4 s i with
  | none => none
  | some n =>
    if n < 55296 ∨ 56320 ≤ n then some (n, 4)
    else if startsU s (i + 4) = false then some (n, 4)
    else match hx4 s (i + 6) with
      | none => some (n, 4)
      | some l => if l < 56320 ∨ 57344 ≤ l then some (n, 4) else some (65536 + (n - 55296) * 1024 + (l - 56320), 10)
theorem uniF_lt {s : ByteArray} {i n m : Nat} (h : uniF s i = some (n, m)) : n ≤ 1114111 ∧ (m = 4 ∨ m = 10) := by
  unfold uniF at h
  cases h1 : hx4 s i with
  | none => rw [h1] at h; cases h
  | some a =>
    rw [h1] at h
    have := hx4_lt h1
    simp only at h
    split at h
    · injection h with h; injection h with e1 e2; omega
    split at h
    · injection h with h; injection h with e1 e2; omega
    cases h2 : hx4 s (i + 6) with
    | none => rw [h2] at h; simp only at h; injection h with h; injection h with e1 e2; omega
    | some l =>
      rw [h2] at h
      simp only at h
      split at h
      · injection h with h; injection h with e1 e2; omega
      · injection h with h; injection h with e1 e2; omega
/-- What stands behind a backslash for a byte. -/
def escS (c : Nat) : Option Nat :=
  if c = 34 ∨ c = 39 ∨ c = 92 ∨ c = 47 then some c else if c = 98 then some 8 else if c = 102 then some 12 else if c = 110 then some 10 else if c = 114 then some 13 else if c = 116 then some 9 else none
/-- The bytes of a code point. -/
def encB (n : Nat) : List UInt8 :=
  if n < 128 then [UInt8.ofNat n] else if n < 2048 then [UInt8.ofNat (192 + n / 64), UInt8.ofNat (128 + n % 64)]
  else if n < 65536 then [UInt8.ofNat (224 + n / 4096), UInt8.ofNat (128 + n / 64 % 64), UInt8.ofNat (128 + n % 64)]
  else [UInt8.ofNat (240 + n / 262144), UInt8.ofNat (128 + n / 4096 % 64), UInt8.ofNat (128 + n / 64 % 64), UInt8.ofNat (128 + n % 64)]
theorem encB_le (n : Nat) : (encB n).length ≤ 4 := by
  unfold encB
  repeat' split
  all_goals simp
/-- One step of the language: where it goes on, what it writes, whether that is sure. -/
def stepS (s : ByteArray) (i : Nat) : Option (Nat × List UInt8 × Bool) :=
  if by_ s i = 92 then
    if s.size ≤ i + 1 then none
    else if by_ s (i + 1) = 117 then
      match uniF s (i + 2) with
      | none => none
      | some (n, m) => some (i + 2 + m, encB n, decide (n < 55296) || decide (57344 ≤ n))
    else match escS (by_ s (i + 1)) with
      | none => none
      | some c => some (i + 2, [UInt8.ofNat c], true)
  else some (i + 1, [UInt8.ofNat (by_ s i)], true)
def runS (s : ByteArray) : Nat → Nat → List UInt8 → Bool → Option (List UInt8) × Bool
  | 0, _, acc, sure => (some acc, sure)
  | f + 1, i, acc, sure =>
    if i < s.size then
      match stepS s i with
      | none => (none, sure)
      | some (j, bs, ok) => runS s f j (acc ++ bs) (sure && ok)
    else (some acc, sure)
/-- Two halves of a code point. -/
def pairR (c d : Nat) : Nat := if c < 56320 ∧ 56320 ≤ d ∧ d < 57344 then 65536 + (c - 55296) * 1024 + (d - 56320) else 65533
/-- What the package makes of a number that hexadecimal digits from a place on are. -/
def stepC (s : ByteArray) (k c : Nat) : Option (Nat × List UInt8) :=
  if 55296 ≤ c ∧ c < 57344 then
    if s.size < k + 10 then none
    else if startsU s (k + 4) = false then none
    else (hx4 s (k + 6)).map fun d => (k + 10, Lib.encodeRune (pairR c d : Nat))
  else some (k + 4, Lib.encodeRune (c : Nat))
/-- What it makes of what stands behind a backslash. -/
def stepB (s : ByteArray) (k r : Nat) : Option (Nat × List UInt8) :=
  if r = 117 then
    if s.size < k + 4 then none else (hx4 s k).bind fun c => stepC s k c
  else (escS r).map fun c => (k, Lib.encodeRune (c : Nat))
/-- One step of the package. -/
def stepP (s : ByteArray) (i : Nat) : Option (Nat × List UInt8) :=
  if (Utf8.decode s i).1 = 92 then
    if s.size ≤ i + (Utf8.decode s i).2 then none
    else stepB s (i + (Utf8.decode s i).2 + (Utf8.decode s (i + (Utf8.decode s i).2)).2) (Utf8.decode s (i + (Utf8.decode s i).2)).1
  else some (i + (Utf8.decode s i).2, Lib.encodeRune ((Utf8.decode s i).1 : Nat))
def runP (s : ByteArray) : Nat → Nat → List UInt8 → Option (List UInt8)
  | 0, _, acc => some acc
  | f + 1, i, acc =>
    if i < s.size then
      match stepP s i with
      | none => none
      | some (j, bs) => runP s f j (acc ++ bs)
    else some acc
def contP (s : ByteArray) (f : Nat) (l : List UInt8) : Option (Nat × List UInt8) → Option (List UInt8)
  | none => none
  | some (j, bs) => runP s f j (l ++ bs)
theorem runP_step {s : ByteArray} {f i : Nat} {l : List UInt8} (h : i < s.size) : runP s (f + 1) i l = contP s f l (stepP s i) := by
  rw [runP, if_pos h]
  cases stepP s i <;> rfl
def hexD (d : Nat) : UInt8 := UInt8.ofNat (if d < 10 then 48 + d else 87 + d)
/-- What the package writes for a code point. -/
def escB (single : Bool) (r : Nat) : List UInt8 :=
  if r = 34 then (if single then [34] else [92, 34])
  else if r = 39 then (if single then [92, 39] else [39])
  else if r = 92 then [92, 92] else if r = 8 then [92, 98] else if r = 12 then [92, 102] else if r = 10 then [92, 110] else if r = 13 then [92, 114] else if r = 9 then [92, 116]
  else if r = 0 then [92, 117, 48, 48, 48, 48]
  else if r < 32 ∨ (127 ≤ r ∧ r ≤ 159) then [92, 117, 48, 48, hexD (r / 16), hexD (r % 16)]
  else Lib.encodeRune (r : Nat)
def runE (s : ByteArray) (single : Bool) : Nat → Nat → List UInt8 → List UInt8
  | 0, _, acc => acc
  | f + 1, i, acc => if i < s.size then runE s single f (i + (Utf8.decode s i).2) (acc ++ escB single (Utf8.decode s i).1) else acc
end Go.Proofs.YtpgmnggicmbacaaGreatDoor
