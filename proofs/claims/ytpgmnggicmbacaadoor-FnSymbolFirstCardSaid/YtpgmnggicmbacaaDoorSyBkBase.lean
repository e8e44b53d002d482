/-
  Text blocks of the package: small facts. (Printed by wip/gen_symblk.py.)
-/
import Derived.Test.YtpgmnggicmbacaaDoorSyTbK
namespace Go.Proofs.YtpgmnggicmbacaaDoor
open Go.Shelf Go.RowKit
set_option linter.unusedVariables false
set_option linter.unusedSimpArgs false

theorem TbI.pos {b : Nat} {s : ByteArray} {K : LK} {w0 wr : World} {c pos : Nat} {v : List UInt8} (h : TbI b s K w0 c wr pos v) : lexPos b wr = pos := h.1.1.choose_spec.pos
theorem TbI.c2 {b : Nat} {s : ByteArray} {K : LK} {w0 wr : World} {c pos : Nat} {v : List UInt8} (h : TbI b s K w0 c wr pos v) : wr.cell? ⟨b, 2, none⟩ = some (.string s) := h.1.1.choose_spec.c2
theorem TbI.c10 {b : Nat} {s : ByteArray} {K : LK} {w0 wr : World} {c pos : Nat} {v : List UInt8} (h : TbI b s K w0 c wr pos v) : wr.cell? ⟨b, 10, none⟩ = some (.int .i64 pos) := h.1.1.choose_spec.c10
/-- The place that errors are told of: a block of two numbers, kept. -/
theorem TbI.box {b : Nat} {s : ByteArray} {K : LK} {w0 wr : World} {c pos : Nat} {v : List UInt8} (h : TbI b s K w0 c wr pos v) {g : Nat} {t : TypeId} {x y : Value} (hB : Blk w0 g t #[x, y]) (hg : g ≠ b) : wr.cell? ⟨g, 0, none⟩ = some x ∧ wr.cell? ⟨g, 1, none⟩ = some y := by
  have h2 := hB.grown h.1.2 (fun e => hg (by injection e))
  exact ⟨h2.cell 0, h2.cell 1⟩
/-- 0 at the end of the text. -/
def eofN (x : Int) : Nat := if x = -1 then 0 else 1
theorem eofN_one {x : Int} (h : x ≠ -1) : eofN x = 1 := if_neg h
/-- One rune on: less is left. -/
theorem left_less {s : ByteArray} {k : Nat} (hk : k < s.size) : 2 * (s.size - nextP s (nextP s k)) + eofN (peekR s (nextP s k)) < 2 * (s.size - nextP s k) + 1 := by
  have h1 := nextP_in (s := s) (pos := k) (by omega)
  rcases Nat.lt_or_ge (nextP s k) s.size with h | h
  · have h2 := nextP_lt h
    have h3 := nextP_in (s := s) (pos := nextP s k) h1
    unfold eofN
    split <;> omega
  · have e : nextP s (nextP s k) = nextP s k := by
      generalize nextP s k = j at h
      unfold nextP
      rw [if_neg (by omega)]
    have e2 : peekR s (nextP s k) = -1 := by
      unfold peekR
      rw [if_neg (by omega)]
    unfold eofN
    rw [e, if_pos e2]
    omega
theorem peek_eof {s : ByteArray} {k : Nat} (h : peekR s k = -1) : s.size ≤ k := by
  unfold peekR at h
  split at h
  · omega
  · omega
theorem peek_not_eof {s : ByteArray} {k : Nat} (h : peekR s k ≠ -1) : k < s.size := by
  rcases Nat.lt_or_ge k s.size with g | g
  · exact g
  · exact absurd (by unfold peekR; rw [if_neg (by omega)]) h
theorem hd_peek {s : ByteArray} {k : Nat} (h : k < s.size) (h1 : peekR s k ≠ 32) (h2 : peekR s k ≠ 9) (h3 : peekR s k ≠ 13) : hdB (by_ s k) = false := by
  cases hb : hdB (by_ s k)
  · rfl
  · exfalso
    have hp := (peek_by h (hd_low hb)).1
    unfold hdB at hb
    simp at hb
    omega
theorem ws_peek {s : ByteArray} {k : Nat} (h : k < s.size) (h1 : peekR s k ≠ 32) (h2 : peekR s k ≠ 9) : wsB (by_ s k) = false := by
  cases hb : wsB (by_ s k)
  · rfl
  · exfalso
    have hp := (peek_by h (ws_low hb)).1
    unfold wsB at hb
    simp at hb
    omega
theorem nl_peek {s : ByteArray} {k : Nat} (h : k < s.size) (h1 : peekR s k ≠ 10) : nlB (by_ s k) = false := by
  cases hb : nlB (by_ s k)
  · rfl
  · exfalso
    have hp := (peek_by h (nl_low hb)).1
    unfold nlB at hb
    simp at hb
    omega
/-- A rune known by its number. -/
theorem peek_one {s : ByteArray} {k c : Nat} (hc : c < 128) (h : peekR s k = (c : Int)) : k < s.size ∧ by_ s k = c ∧ nextP s k = k + 1 := by
  obtain ⟨h1, h2⟩ := (peek_is hc).1 h
  exact ⟨h1, h2, (peek_by h1 (by omega)).2⟩
theorem enc10 : Lib.encodeRune 10 = [10] := by decide
theorem UpI.hdStart {s : ByteArray} {q : Nat} (h : q ≤ s.size) : UpI hdB s q q := UpI.start h
theorem marg_low {s : ByteArray} {p0 m a : Nat} (h : Upto wsB (by_ s) s.size p0 (p0 + m)) (hm : StM (by_ s) s.size p0 m a) : ∀ k, k < m → by_ s (a + k) < 128 := fun k hk => by
  rw [hm.2 k hk]
  exact ws_low (h.2.2.1 (p0 + k) (by omega) (by omega))
theorem rn_start {s : ByteArray} {q p1 p0 m : Nat} (h : HeadQ s q p1 p0 m) (hq : Tail s 0 → Tail s q) : RnI s p1 p0 m p0 (blanks0 p1 p0) := fun ht => by
  refine ⟨?_, .refl⟩
  have h1 := (show UpI hdB s q p1 from ⟨h.one.1, h.one.2.1, h.one.2.2.1⟩).tail (fun _ => hd_low) (hq ht)
  have h2 := tail_one h1 h.nl.1 (by rw [h.nl.2]; omega)
  exact (show UpI nlB s (p1 + 1) p0 from ⟨h.two.1, h.two.2.1, h.two.2.2.1⟩).tail (fun _ => nl_low) h2
theorem marg_not {s : ByteArray} {p0 m : Nat} (h : Upto wsB (by_ s) s.size p0 (p0 + m)) (h1 : 1 ≤ m) : ¬ Nl (by_ s) s.size p0 := fun hn => by
  have := h.2.2.1 p0 (Nat.le_refl _) (by omega)
  rw [hn.2] at this
  cases this
theorem rn_tail {s : ByteArray} {p1 p0 m a : Nat} {v : List UInt8} (h : RnI s p1 p0 m a v) (hw : Upto wsB (by_ s) s.size p0 (p0 + m)) (hm : StM (by_ s) s.size p0 m a) : Tail s 0 → Tail s (a + m) := fun ht => tail_more (h ht).1 m hm.1 (marg_low hw hm)
theorem cw_self2 (s : ByteArray) (a m : Nat) (hs : s.size ≤ 1000000) (hz : Upto wsB (by_ s) s.size a (a + m)) (w : World) :
    Calls Tryd.prog 77 #[.string (s.extract a s.size), .string (s.extract a s.size)] w fun e w' => e = .returned (.int .i64 (m : Int)) ∧ Below w.heap.size w w' := by
  have := cw_self s a (a + m) hs hz w
  rwa [Nat.add_sub_cancel_left] at this
end Go.Proofs.YtpgmnggicmbacaaDoor
