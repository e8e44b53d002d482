/-
  The lexer's ground: makeLexer, peek, next.
-/
import Derived.Test.YtpgmnggicmbacaaGreatDoorSrBuild
import Derived.Deep.QuietTactic
import Derived.BigQuiet
import Derived.Deep.RegionLaw
import Derived.Deep.RegionHeld3
import Derived.Lib.RuneCountTail
namespace Go.Proofs.YtpgmnggicmbacaaGreatDoor
open Go.Shelf Go.RowKit

/-- What peek answers. -/
def peekR (s : ByteArray) (pos : Nat) : Int := if pos < s.size then ((Utf8.decode s pos).1 : Int) else -1
def PkPost (r : Int) (w : World) (e : Ending) (w' : World) : Prop := e = .returned (.int .i32 r) ∧ Below w.heap.size w w'
theorem rune_read (s : ByteArray) (w : World) (hT : Lib.Utf8Tabs 0 1 w) :
    Calls Tryz.prog 16 #[.string s] w fun e w' => e = .returned (.tuple #[.int .i32 (Lib.decodeGo s).1, .int .i64 (Lib.decodeGo s).2]) ∧ Below w.heap.size w w' := Any.utf8_DecodeRuneInString laysLaysn197 s w hT
theorem decode_tail (s : ByteArray) (pos : Nat) (h : pos < s.size) : Lib.decodeGo (s.extract pos s.size) = Utf8.decode s pos := by
  unfold Lib.decodeGo
  rw [if_neg (by rw [Lib.tail_size]; omega), Lib.tail_decode, Nat.add_zero]
theorem rune_at (s : ByteArray) (pos : Nat) (h : pos < s.size) (w : World) (hT : Lib.Utf8Tabs 0 1 w) :
    Calls Tryz.prog 16 #[.string (s.extract pos s.size)] w fun e w' => e = .returned (.tuple #[.int .i32 (Utf8.decode s pos).1, .int .i64 (Utf8.decode s pos).2]) ∧ Below w.heap.size w w' := by
  have := rune_read (s.extract pos s.size) w hT
  rw [decode_tail s pos h] at this
  exact this
theorem keep2x {w w' : World} (hb : Below w.heap.size w w') {p1 p2 : Addr} {u1 u2 : Value} (c1 : w.cell? p1 = some u1) (c2 : w.cell? p2 = some u2) :
    Below w.heap.size w w' ∧ w'.cell? p1 = some u1 ∧ w'.cell? p2 = some u2 :=
  have k : ∀ {p : Addr} {u : Value}, w.cell? p = some u → w'.cell? p = some u := fun {p} {_} h => (hb.cell (World.block_lt_of_cell? w p h)).trans h
  ⟨hb, k c1, k c2⟩

end Go.Proofs.YtpgmnggicmbacaaGreatDoor
