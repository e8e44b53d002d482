/-
  The lexer's ground: makeLexer, peek, next.
-/
import Derived.Test.YtpgmnggicmbacaaDoorSrBuild
import Derived.Deep.QuietTactic
import Derived.BigQuiet
import Derived.Deep.RegionLaw
import Derived.Deep.RegionHeld3
import Derived.Lib.RuneCountTail
namespace Go.Proofs.YtpgmnggicmbacaaDoor
open Go.Shelf Go.RowKit

/-- The lexer's cells: a text, a place in it. -/
def cellsX (f g s : ByteArray) (src fod tok : Value) (ts tl tc : Int) (fr : Bool) (pos : Nat) (ln ls : Int) : Array Value :=
  #[.string f, .string g, .string s, src, fod, tok, .int .i64 ts, .int .i64 tl, .int .i64 tc, .bool fr, .int .i64 pos, .int .i64 ln, .int .i64 ls]
/-- A lexer that has read up to a place. -/
def Lexer (w : World) (b : Nat) (s : ByteArray) (pos : Nat) : Prop :=
  ∃ f g src fod tok ts tl tc fr ln ls, Blk w b 81 (cellsX f g s src fod tok ts tl tc fr pos ln ls) ∧ 0 ≤ ln ∧ ln ≤ pos + 1
def LxPost (s : ByteArray) (w : World) (e : Ending) (w' : World) : Prop := (∃ b, e = .returned (.pointer (some ⟨b, 0, none⟩)) ∧ w.heap.size ≤ b ∧ Lexer w' b s 0) ∧ Below w.heap.size w w'
set_option maxRecDepth 100000 in
set_option maxHeartbeats 3200000 in
theorem makeLexer_any (f g s : ByteArray) (hs : s.size ≤ 1000000) (w : World) : Calls Tryd.prog 30 #[.string f, .string g, .string s] w (LxPost s w) := by
  go_enter Tryd.func30, Tryd.ntmps30
  go_wp2_with (go_at_call 57; refine (BuildSource_any _ s hs _).mono ?_; rintro e1 w1 ⟨⟨g1, rfl⟩, hb1⟩)
  go_ret
  exact ⟨⟨_, rfl, hb1.size, f, g, _, _, _, 0, 1, 1, true, 1, 0, Blk.new _ _ _, by omega, by omega⟩, hb1.alloc hb1.size _⟩

/-- What peek answers. -/
def peekR (s : ByteArray) (pos : Nat) : Int := if pos < s.size then ((Utf8.decode s pos).1 : Int) else -1
def PkPost (r : Int) (w : World) (e : Ending) (w' : World) : Prop := e = .returned (.int .i32 r) ∧ Below w.heap.size w w'
theorem rune_read (s : ByteArray) (w : World) (hT : Lib.Utf8Tabs 0 1 w) :
    Calls Tryd.prog 32 #[.string s] w fun e w' => e = .returned (.tuple #[.int .i32 (Lib.decodeGo s).1, .int .i64 (Lib.decodeGo s).2]) ∧ Below w.heap.size w w' := Any.utf8_DecodeRuneInString laysLaysn197 s w hT
theorem decode_tail (s : ByteArray) (pos : Nat) (h : pos < s.size) : Lib.decodeGo (s.extract pos s.size) = Utf8.decode s pos := by
  unfold Lib.decodeGo
  rw [if_neg (by rw [Lib.tail_size]; omega), Lib.tail_decode, Nat.add_zero]
theorem rune_at (s : ByteArray) (pos : Nat) (h : pos < s.size) (w : World) (hT : Lib.Utf8Tabs 0 1 w) :
    Calls Tryd.prog 32 #[.string (s.extract pos s.size)] w fun e w' => e = .returned (.tuple #[.int .i32 (Utf8.decode s pos).1, .int .i64 (Utf8.decode s pos).2]) ∧ Below w.heap.size w w' := by
  have := rune_read (s.extract pos s.size) w hT
  rw [decode_tail s pos h] at this
  exact this
theorem keep2x {w w' : World} (hb : Below w.heap.size w w') {p1 p2 : Addr} {u1 u2 : Value} (c1 : w.cell? p1 = some u1) (c2 : w.cell? p2 = some u2) :
    Below w.heap.size w w' ∧ w'.cell? p1 = some u1 ∧ w'.cell? p2 = some u2 :=
  have k : ∀ {p : Addr} {u : Value}, w.cell? p = some u → w'.cell? p = some u := fun {p} {_} h => (hb.cell (World.block_lt_of_cell? w p h)).trans h
  ⟨hb, k c1, k c2⟩

set_option maxRecDepth 100000 in
set_option maxHeartbeats 3200000 in
theorem peek_any (b : Nat) (s : ByteArray) (pos : Nat) (w : World) (h : Lexer w b s pos) (hT : Lib.Utf8Tabs 0 1 w) :
    Calls Tryd.prog 58 #[.pointer (some ⟨b, 0, none⟩)] w (PkPost (peekR s pos) w) := by
  obtain ⟨f, g, src, fod, tok, ts, tl, tc, fr, ln, ls, hB, -, -⟩ := h
  have c2 := hB.cell 2
  have c10 := hB.cell 10
  simp only [cellsX, List.getElem?_toArray, List.getElem?_cons_zero, List.getElem?_cons_succ] at c2 c10
  have HT := Lib.hid hT
  clear hT hB
  by_cases hlt : pos < s.size
  · have hge : decide ((pos : Int) ≥ (s.size : Int)) = false := by simp; omega
    have z0 : (0 : Int) ≤ (pos : Int) := by omega
    have z1 : (pos : Int) ≤ (s.size : Int) := by omega
    unfold peekR
    rw [if_pos hlt]
    go_enter Tryd.func58, Tryd.ntmps58
    go_wp2_with fail
    go_quiet ((fail))
    have HQ := Lib.hid (below_drewB (Below.refl w.heap.size w) nq)
    have c2 : (w.drewN nq).cell? ⟨b, 2, none⟩ = some (.string s) := c2
    have c10 : (w.drewN nq).cell? ⟨b, 10, none⟩ = some (.int .i64 pos) := c10
    have HT1 := Lib.hid (Utf8Tabs_below HT.out HQ.out)
    clear HT
    go_wp2_with fail
    generalize w.drewN nq = w1 at *
    have K := Lib.hid (rune_at s pos hlt w1.drew (Utf8Tabs_below HT1.out (Below.refl _ _).drew))
    go_region_held3 (fun w' => Below w1.heap.size w1 w' ∧ w'.cell? ⟨b, 2, none⟩ = some (.string s) ∧ w'.cell? ⟨b, 10, none⟩ = some (.int .i64 pos))
      ((refine keep2x ?_ c2 c10; repeat (first | with_reducible exact Below.refl _ _ | with_reducible exact hk9 | with_reducible apply Below.drew)))
      ((go_at_call 32; refine K.out.mono ?_; rintro e9 w9 ⟨rfl, hb9⟩; have hk9 : Below w1.heap.size w1 w9 := (Below.refl w1.heap.size w1).drew.trans hb9))
    all_goals
      go_wp2_with fail
      go_ret
      exact ⟨rfl, HQ.out.trans (hk9.mono HQ.out.size)⟩
  · have hge : decide ((pos : Int) ≥ (s.size : Int)) = true := by simp; omega
    unfold peekR
    rw [if_neg hlt]
    go_enter Tryd.func58, Tryd.ntmps58
    go_wp2_with fail
    go_quiet ((fail))
    go_wp2_with fail
    go_ret
    exact ⟨rfl, below_drewB (Below.refl _ _) _⟩
/-- White space. -/
def isW (r : Int) : Bool := r == 10 || r == 32 || r == 9 || r == 13
set_option maxRecDepth 100000 in
theorem isHor_any (r : Int) (w : World) : Calls Tryd.prog 86 #[.int .i32 r] w fun e w' => e = .returned (.bool (r == 32 || r == 9 || r == 13)) ∧ w = w' := by
  rcases h1 : (r == 32) with _ | _ <;> rcases h2 : (r == 9) with _ | _ <;> rcases h3 : (r == 13) with _ | _
  all_goals
    go_enter Tryd.func86, Tryd.ntmps86
    go_wp2
    go_ret
    exact ⟨rfl, rfl⟩
set_option maxRecDepth 100000 in
theorem isW_any (r : Int) (w : World) : Calls Tryd.prog 59 #[.int .i32 r] w fun e w' => e = .returned (.bool (isW r)) ∧ w = w' := by
  have K := Lib.hid (isHor_any r w)
  unfold isW
  rcases h1 : (r == 10) with _ | _
  · go_enter Tryd.func59, Tryd.ntmps59
    go_wp2_with fail
    refine K.out.mono ?_
    rintro e1 w1 ⟨rfl, rfl⟩
    go_wp2_with fail
    go_ret
    exact ⟨rfl, rfl⟩
  · go_enter Tryd.func59, Tryd.ntmps59
    go_wp2_with fail
    go_ret
    exact ⟨rfl, rfl⟩
end Go.Proofs.YtpgmnggicmbacaaDoor
