/-
  What the package's escapes are written with: the buffer, the runes read, hexadecimal digits read.
-/
import Derived.Test.YtpgmnggicmbacaaDoorSyGa
import Derived.Test.YtpgmnggicmbacaaDoorSyGb
import Derived.Test.YtpgmnggicmbacaaDoorLaysE
import Derived.Lib.BufferOld
namespace Go.Proofs.YtpgmnggicmbacaaDoor
open Go.Shelf Go.RowKit
set_option linter.unusedVariables false
set_option linter.unusedSimpArgs false

/-- What is read of the library's tables. -/
def Tabs3 (w : World) : Prop := Lib.Utf8Tabs 0 1 w ∧ (∃ ev, w.cell? ⟨3, 0, none⟩ = some ev) ∧ w.cell? ⟨6, 15, none⟩ = some (.int .u8 4)
theorem Tabs3.below {w w' : World} (h : Tabs3 w) (hb : Below w.heap.size w w') : Tabs3 w' := by
  obtain ⟨h1, ⟨ev, h2⟩, h3⟩ := h
  have k : ∀ {p : Addr} {u : Value}, w.cell? p = some u → w'.cell? p = some u := fun {p} {_} h => (hb.cell (World.block_lt_of_cell? w p h)).trans h
  exact ⟨Utf8Tabs_below h1 hb, ⟨ev, k h2⟩, k h3⟩
/-- A buffer that a call began with, and what is written in it. -/
def Buf (w0 wr : World) (l : List UInt8) : Prop := Lib.IsBuffer 86 5 w0.heap.size w0.heap.size (Lib.byteCells l) wr ∧ Below w0.heap.size w0 wr
theorem Buf.start (w : World) : Buf w (w.alloc (.cells #[.slice none 0 0, .int .i64 0, .int .i8 0] 86)) [] :=
  ⟨Lib.fresh_isBuffer 86 5 w, (Below.refl _ w).alloc (Nat.le_refl _) _⟩
theorem Buf.le {w0 wr : World} {l : List UInt8} (h : Buf w0 wr l) : w0.heap.size ≤ wr.heap.size := h.2.size
theorem Buf.below {w0 wr w' : World} {l : List UInt8} (h : Buf w0 wr l) (hb : Below wr.heap.size wr w') : Buf w0 w' l := ⟨h.1.old hb, h.2.trans (hb.mono h.le)⟩
def PutPost (w0 : World) (l : List UInt8) (e : Ending) (w' : World) : Prop := (∃ n : Int, e = .returned (.tuple #[.int .i64 n, .nilIface])) ∧ Buf w0 w' l
theorem put_rune (w0 wr : World) (l : List UInt8) (r : Int) (h : Buf w0 wr l) (hr0 : -2147483648 ≤ r) (hr1 : r ≤ 2147483647) (hlim : l.length ≤ 100000000000) :
    Calls Tryd.prog 33 #[.pointer (some ⟨w0.heap.size, 0, none⟩), .int .i32 r] wr (PutPost w0 (l ++ Lib.encodeRune r)) := by
  refine (rune_written w0.heap.size w0.heap.size _ r hr0 hr1 wr h.1 h.le (Lib.byteCells_one _) (by rw [Lib.byteCells_length]; omega)).mono ?_
  rintro e w1 ⟨rfl, g1, b1, -⟩
  exact ⟨⟨_, rfl⟩, by rw [Lib.byteCells_append, Lib.byteCells_encodeRune]; exact g1, h.2.trans b1⟩
theorem put_str (w0 wr : World) (l : List UInt8) (s : ByteArray) (h : Buf w0 wr l) (hs : s.size ≤ 1000000) (hlim : l.length ≤ 100000000000) :
    Calls Tryd.prog 34 #[.pointer (some ⟨w0.heap.size, 0, none⟩), .string s] wr (PutPost w0 (l ++ s.data.toList)) := by
  have K : Calls Tryd.prog 34 #[.pointer (some ⟨w0.heap.size, 0, none⟩), .string s] wr fun e w' => e = .returned (.tuple #[.int .i64 s.size, .nilIface]) ∧ Lib.IsBuffer 86 5 w0.heap.size w0.heap.size (Lib.byteCells l ++ Lib.byteCells s.data.toList) w' ∧ Below w0.heap.size wr w' ∧ Lib.OthersKept 5 (some w0.heap.size) wr w' :=
    Any.Buffer_WriteString_k laysLaysMn178 w0.heap.size w0.heap.size _ s wr h.1 h.le (Lib.byteCells_one _) (by rw [Lib.byteCells_length]; omega)
  refine K.mono ?_
  rintro e w1 ⟨rfl, g1, b1, -⟩
  exact ⟨⟨_, rfl⟩, by rw [Lib.byteCells_append]; exact g1, h.2.trans b1⟩
def StrPost (w0 : World) (l : List UInt8) (e : Ending) (w' : World) : Prop := e = .returned (.string ⟨l.toArray⟩) ∧ Below w0.heap.size w0 w'
theorem take_str (w0 wr : World) (l : List UInt8) (h : Buf w0 wr l) :
    Calls Tryd.prog 36 #[.pointer (some ⟨w0.heap.size, 0, none⟩)] wr (StrPost w0 l) := by
  refine (buf_string w0.heap.size w0.heap.size l wr h.1).mono ?_
  rintro e w1 ⟨rfl, n, rfl⟩
  exact ⟨rfl, below_drewB h.2 n⟩
def DecPost (s : ByteArray) (pos : Nat) (w0 : World) (l : List UInt8) (e : Ending) (w' : World) : Prop := e = .returned (.tuple #[.int .i32 (Utf8.decode s pos).1, .int .i64 (Utf8.decode s pos).2]) ∧ Buf w0 w' l
theorem dec_at (s : ByteArray) (pos : Nat) (hp : pos < s.size) (w0 wr : World) (l : List UInt8) (h : Buf w0 wr l) (hT : Tabs3 w0) :
    Calls Tryd.prog 32 #[.string (s.extract pos s.size)] wr (DecPost s pos w0 l) := by
  refine (rune_at s pos hp wr (hT.below h.2).1).mono ?_
  rintro e w1 ⟨rfl, b1⟩
  exact ⟨rfl, h.below b1⟩

/-- The kit's table of digits says the same. -/
theorem hexV_fin : ∀ c : Fin 256, (match hexV c.val with | none => decide (15 < Lib.Hx.v (UInt8.ofNat c.val)) | some d => Lib.Hx.v (UInt8.ofNat c.val) == d) = true := by decide +kernel
theorem hexV_v {c : Nat} (hc : c < 256) : match hexV c with | none => 15 < Lib.Hx.v (UInt8.ofNat c) | some d => Lib.Hx.v (UInt8.ofNat c) = d := by
  have h := hexV_fin ⟨c, hc⟩
  simp only at h
  cases hx : hexV c with
  | none => rw [hx] at h; simpa using h
  | some d => rw [hx] at h; simpa using h
theorem bytes4 (s : ByteArray) (i : Nat) (h : i + 4 ≤ s.size) : (s.extract i (i + 4)).data.toList = [UInt8.ofNat (by_ s i), UInt8.ofNat (by_ s (i + 1)), UInt8.ofNat (by_ s (i + 2)), UInt8.ofNat (by_ s (i + 3))] := by
  rw [cut_list s i 4 h]
  rfl
def hiB (n : Nat) : UInt8 := UInt8.ofNat (n / 256)
def loB (n : Nat) : UInt8 := UInt8.ofNat (n % 256)
theorem dec_none {s : ByteArray} {i : Nat} (h : i + 4 ≤ s.size) (hx : hx4 s i = none) : ∃ c, (Lib.Hx.decode (s.extract i (i + 4)).data.toList).2 = .bad c := by
  rw [bytes4 s i h, Lib.Hx.decode_two]
  have v0 := hexV_v (by_lt s i)
  have v1 := hexV_v (by_lt s (i + 1))
  have v2 := hexV_v (by_lt s (i + 2))
  have v3 := hexV_v (by_lt s (i + 3))
  unfold hx4 at hx
  rw [if_pos h] at hx
  by_cases b0 : 15 < Lib.Hx.v (UInt8.ofNat (by_ s i))
  · rw [if_pos b0]; exact ⟨_, rfl⟩
  by_cases b1 : 15 < Lib.Hx.v (UInt8.ofNat (by_ s (i + 1)))
  · rw [if_neg b0, if_pos b1]; exact ⟨_, rfl⟩
  rw [if_neg b0, if_neg b1, Lib.Hx.decode_two]
  by_cases b2 : 15 < Lib.Hx.v (UInt8.ofNat (by_ s (i + 2)))
  · rw [if_pos b2]; exact ⟨_, rfl⟩
  by_cases b3 : 15 < Lib.Hx.v (UInt8.ofNat (by_ s (i + 3)))
  · rw [if_neg b2, if_pos b3]; exact ⟨_, rfl⟩
  exfalso
  cases h0 : hexV (by_ s i) with
  | none => rw [h0] at v0; exact b0 v0
  | some d0 =>
  cases h1 : hexV (by_ s (i + 1)) with
  | none => rw [h1] at v1; exact b1 v1
  | some d1 =>
  cases h2 : hexV (by_ s (i + 2)) with
  | none => rw [h2] at v2; exact b2 v2
  | some d2 =>
  cases h3 : hexV (by_ s (i + 3)) with
  | none => rw [h3] at v3; exact b3 v3
  | some d3 => simp [hxk, h0, h1, h2, h3] at hx
theorem dec_some {s : ByteArray} {i n : Nat} (hx : hx4 s i = some n) : i + 4 ≤ s.size ∧ Lib.Hx.decode (s.extract i (i + 4)).data.toList = ([hiB n, loB n], .ok) := by
  have h : i + 4 ≤ s.size := by
    unfold hx4 at hx
    split at hx
    · assumption
    · cases hx
  refine ⟨h, ?_⟩
  rw [bytes4 s i h, Lib.Hx.decode_two]
  have v0 := hexV_v (by_lt s i)
  have v1 := hexV_v (by_lt s (i + 1))
  have v2 := hexV_v (by_lt s (i + 2))
  have v3 := hexV_v (by_lt s (i + 3))
  unfold hx4 at hx
  rw [if_pos h] at hx
  cases h0 : hexV (by_ s i) with
  | none => simp [hxk, h0] at hx
  | some d0 =>
  cases h1 : hexV (by_ s (i + 1)) with
  | none => simp [hxk, h1] at hx
  | some d1 =>
  cases h2 : hexV (by_ s (i + 2)) with
  | none => simp [hxk, h2] at hx
  | some d2 =>
  cases h3 : hexV (by_ s (i + 3)) with
  | none => simp [hxk, h3] at hx
  | some d3 =>
    rw [h0] at v0
    rw [h1] at v1
    rw [h2] at v2
    rw [h3] at v3
    have l0 := hexV_lt h0
    have l1 := hexV_lt h1
    have l2 := hexV_lt h2
    have l3 := hexV_lt h3
    simp only at v0 v1 v2 v3
    simp [hxk, h0, h1, h2, h3] at hx
    rw [if_neg (by omega), if_neg (by omega), Lib.Hx.decode_two, if_neg (by omega), if_neg (by omega), Lib.Hx.decode_nil, v0, v1, v2, v3]
    unfold hiB loB
    rw [show d0 * 16 + d1 = n / 256 by omega, show d2 * 16 + d3 = n % 256 by omega]
def HdPost (s : ByteArray) (i : Nat) (w0 : World) (l : List UInt8) (e : Ending) (w' : World) : Prop :=
  (match hx4 s i with
    | none => ∃ v x, e = .returned (.tuple #[v, .iface 149 x])
    | some n => ∃ g cap, e = .returned (.tuple #[.slice (some ⟨g, 0, none⟩) 2 cap, .nilIface]) ∧ w'.cell? ⟨g, 0, none⟩ = some (.int .u8 ((n / 256 : Nat) : Int)) ∧ w'.cell? ⟨g, 1, none⟩ = some (.int .u8 ((n % 256 : Nat) : Int))) ∧ Buf w0 w' l
theorem hex_at (s : ByteArray) (i : Nat) (hi : i + 4 ≤ s.size) (w0 wr : World) (l : List UInt8) (h : Buf w0 wr l) (hT : Tabs3 w0) :
    Calls Tryd.prog 38 #[.string (s.extract i (i + 4))] wr (HdPost s i w0 l) := by
  obtain ⟨-, ⟨ev, hev⟩, -⟩ := hT.below h.2
  have hsz : (s.extract i (i + 4)).size = 4 := by rw [ByteArray.size_extract]; omega
  have K : Calls Tryd.prog 38 #[.string (s.extract i (i + 4))] wr fun e w' =>
      e = .returned (.tuple #[.slice (some ⟨wr.heap.size, 0, none⟩) (Lib.Hx.decode (s.extract i (i + 4)).data.toList).1.length ((s.extract i (i + 4)).size / 2), Lib.Hx.errVal 149 ev (Lib.Hx.decode (s.extract i (i + 4)).data.toList).2]) ∧
      w'.rowIs wr.heap.size 5 ((s.extract i (i + 4)).size / 2) (Lib.Hx.rowP (fun _ => .int .u8 0) 0 (Lib.Hx.decode (s.extract i (i + 4)).data.toList).1) ∧ Below wr.heap.size wr w' :=
    Any.hex_DecodeString laysLaysph43 (s.extract i (i + 4)) wr ev hev (by omega)
  refine K.mono ?_
  rintro e w1 ⟨rfl, hrow, b1⟩
  refine ⟨?_, h.below b1⟩
  cases hx : hx4 s i with
  | none =>
    obtain ⟨c, hc⟩ := dec_none hi hx
    rw [hc]
    exact ⟨_, _, rfl⟩
  | some n =>
    obtain ⟨-, hd⟩ := dec_some hx
    have hn := hx4_lt hx
    rw [hd] at hrow ⊢
    have c0 := hrow.cell (i := 0) (by omega)
    have c1 := hrow.cell (i := 1) (by omega)
    refine ⟨wr.heap.size, _, rfl, ?_, ?_⟩
    · rw [c0]
      simp only [Lib.Hx.rowP, hiB, loB]
      simp
      omega
    · rw [c1]
      simp only [Lib.Hx.rowP, hiB, loB]
      simp
end Go.Proofs.YtpgmnggicmbacaaDoor
