/-
  A lexer that reads beside a buffer that is written.
-/
import Derived.Test.YtpgmnggicmbacaaDoorSyGb
import Derived.Test.YtpgmnggicmbacaaDoorSyLoc
import Derived.Test.YtpgmnggicmbacaaDoorSyEbuf
namespace Go.Proofs.YtpgmnggicmbacaaDoor
open Go.Shelf Go.RowKit
set_option linter.unusedVariables false
set_option linter.unusedSimpArgs false

theorem isBuf_grown {T e : TypeId} {B b l : Nat} {bs : List Value} {w w2 : World} (h : Lib.IsBuffer T e B b bs w) (hg : w.grownBy w2 (some l)) (hl : l < B) : Lib.IsBuffer T e B b bs w2 := by
  have hlt := h.lt
  obtain ⟨hB, v, lr, hbk, hown, hne⟩ := h
  refine ⟨hB, v, lr, (hg.block b hlt (fun e => by injection e with e; omega)).trans hbk, ⟨hown.1, ?_⟩, hne⟩
  rcases hown.2 with hn | ⟨g, cap, cur, hv, hbg, hgg, rest⟩
  · exact .inl hn
  · exact .inr ⟨g, cap, cur, hv, hbg, (hg.block g (Array.getElem?_eq_some_iff.1 hgg).1 (fun e => by injection e with e; omega)).trans hgg, rest⟩
theorem grown_belowB {w0 wr w' : World} {row : Option Nat} {c : Nat} (h : w0.grownBy wr row) (hb : Below c wr w') (hc : w0.heap.size ≤ c) : w0.grownBy w' row :=
  ⟨hb.os.trans h.os, hb.tape.trans h.tape, hb.output.trans h.output, Nat.le_trans h.size hb.size, fun k hk hne => (hb.block k (by omega)).trans (h.block k hk hne)⟩
/-- The lexer at a place, and a buffer (block c) with what is written; w0: the world at the beginning. -/
def TbI (b : Nat) (s : ByteArray) (K : LK) (w0 : World) (c : Nat) (wr : World) (pos : Nat) (v : List UInt8) : Prop :=
  WkI b s K w0 wr pos ∧ Lib.IsBuffer 86 5 c c (Lib.byteCells v) wr ∧ b < c ∧ w0.heap.size ≤ c
theorem TbI.le {b : Nat} {s : ByteArray} {K : LK} {w0 wr : World} {c pos : Nat} {v : List UInt8} (h : TbI b s K w0 c wr pos v) : c ≤ wr.heap.size := Nat.le_of_lt h.2.1.lt
theorem TbI.below {b : Nat} {s : ByteArray} {K : LK} {w0 wr w' : World} {c pos : Nat} {v : List UInt8} (h : TbI b s K w0 c wr pos v) (hb : Below wr.heap.size wr w') : TbI b s K w0 c w' pos v :=
  ⟨h.1.peek hb, h.2.1.old hb, h.2.2⟩
theorem TbI.start {b : Nat} {s : ByteArray} {K : LK} {w0 wr : World} {pos : Nat} (h : WkI b s K w0 wr pos) : TbI b s K w0 wr.heap.size (wr.alloc (.cells #[.slice none 0 0, .int .i64 0, .int .i8 0] 86)) pos [] := by
  have hl : b < wr.heap.size := by
    obtain ⟨⟨ls, h1⟩, -⟩ := h
    exact h1.lt
  exact ⟨h.peek (below_alloc1 _ _), Lib.fresh_isBuffer 86 5 wr, hl, h.2.size⟩
theorem TbI.nextC {b : Nat} {s : ByteArray} {K : LK} {w0 wr : World} {c pos : Nat} {v : List UInt8} (h : TbI b s K w0 c wr pos v) (hs : s.size ≤ 1000000) (hp : pos ≤ s.size + 4) (hT : TabsAt b w0) (hl : b < w0.heap.size) :
    Calls Tryd.prog 60 #[.pointer (some ⟨b, 0, none⟩)] wr (fun e w' => e = .returned (.int .i32 (peekR s pos)) ∧ TbI b s K w0 c w' (nextP s pos) v) := by
  obtain ⟨h1, h2, h3⟩ := h
  have hT2 := h1.tabs hT hl
  obtain ⟨⟨ls, k1⟩, k2⟩ := h1
  refine (nextK b s K pos ls hs hp wr k1 hT2).mono ?_
  rintro e w' ⟨rfl, h4, h5⟩
  exact ⟨rfl, ⟨⟨_, h4⟩, grown_trans k2 h5⟩, isBuf_grown h2 h5 h3.1, h3⟩
theorem TbI.peekC {b : Nat} {s : ByteArray} {K : LK} {w0 wr : World} {c pos : Nat} {v : List UInt8} (h : TbI b s K w0 c wr pos v) (hT : TabsAt b w0) (hl : b < w0.heap.size) :
    Calls Tryd.prog 58 #[.pointer (some ⟨b, 0, none⟩)] wr (fun e w' => e = .returned (.int .i32 (peekR s pos)) ∧ TbI b s K w0 c w' pos v) := by
  have hT2 := h.1.tabs hT hl
  refine (peek_any b s pos wr h.1.1.choose_spec.lexer hT2).mono ?_
  rintro e w' ⟨rfl, hb⟩
  exact ⟨rfl, h.below hb⟩
theorem TbI.putC {b : Nat} {s : ByteArray} {K : LK} {w0 wr : World} {c pos : Nat} {v : List UInt8} (h : TbI b s K w0 c wr pos v) (r : Int) (hr0 : -2147483648 ≤ r) (hr1 : r ≤ 2147483647) (hlim : v.length ≤ 100000000) :
    Calls Tryd.prog 33 #[.pointer (some ⟨c, 0, none⟩), .int .i32 r] wr (fun e w' => (∃ n : Int, e = .returned (.tuple #[.int .i64 n, .nilIface])) ∧ TbI b s K w0 c w' pos (v ++ Lib.encodeRune r)) := by
  have hle := h.le
  obtain ⟨h1, h2, h3⟩ := h
  refine (rune_written c c _ r hr0 hr1 wr h2 hle (Lib.byteCells_one _) (by rw [Lib.byteCells_length]; omega)).mono ?_
  rintro e w1 ⟨rfl, g1, b1, -⟩
  obtain ⟨⟨ls, k1⟩, k2⟩ := h1
  exact ⟨⟨_, rfl⟩, ⟨⟨ls, k1.belowB b1 h3.1⟩, grown_belowB k2 b1 h3.2⟩, by rw [Lib.byteCells_append, Lib.byteCells_encodeRune]; exact g1, h3⟩
theorem TbI.strC {b : Nat} {s : ByteArray} {K : LK} {w0 wr : World} {c pos : Nat} {v : List UInt8} (h : TbI b s K w0 c wr pos v) :
    Calls Tryd.prog 36 #[.pointer (some ⟨c, 0, none⟩)] wr (fun e w' => e = .returned (.string ⟨v.toArray⟩) ∧ TbI b s K w0 c w' pos v) := by
  refine (buf_string c c v wr h.2.1).mono ?_
  rintro e w1 ⟨rfl, n, rfl⟩
  exact ⟨rfl, h.below (below_drewB (Below.refl _ _) n)⟩
theorem peekR_rng (s : ByteArray) (pos : Nat) : -2147483648 ≤ peekR s pos ∧ peekR s pos ≤ 2147483647 := by
  unfold peekR
  split
  · have := decode_le s pos
    omega
  · omega
/-- A rune is at most four bytes. -/
theorem enc4 (r : Int) : (Lib.encodeRune r).length ≤ 4 := by
  have := Lib.runeCells_le r
  rw [Lib.runeCells_length] at this
  exact this.2
theorem nextP_le (s : ByteArray) (pos : Nat) : nextP s pos ≤ pos + 4 := by
  unfold nextP
  split
  · have := width_le s pos
    omega
  · omega
theorem nextP_lt {s : ByteArray} {pos : Nat} (h : pos < s.size) : pos < nextP s pos := by
  unfold nextP
  rw [if_pos h]
  have := width_pos s pos h
  omega
theorem decode_in (s : ByteArray) (i : Nat) (h : i < s.size) : i + (Utf8.decode s i).2 ≤ s.size := by
  rw [dec_eq]
  repeat' split
  all_goals
    try simp only [Bool.and_eq_true, decide_eq_true_eq] at *
    (try dsimp only)
    omega
/-- A rune's bytes lie within the text. -/
theorem nextP_in {s : ByteArray} {pos : Nat} (h : pos ≤ s.size) : nextP s pos ≤ s.size := by
  unfold nextP
  split
  · rename_i hl
    exact decode_in s pos hl
  · exact h
end Go.Proofs.YtpgmnggicmbacaaDoor
