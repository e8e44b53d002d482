/-
  ReadSpace, impl.SpaceRead, short and the statement's function.
-/
import Derived.Test.YtpgmnggicmbacaaDoorSrWhite
import Derived.Test.YtpgmnggicmbacaaDoorReadable
namespace Go.Proofs.YtpgmnggicmbacaaDoor
open Go.Shelf Go.RowKit

def RsPost (s : ByteArray) (w : World) (e : Ending) (w' : World) : Prop := e = .returned (.tuple #[.int .i64 ((spaceR s).1 : Nat), .int .i64 ((spaceR s).2.1 : Nat), .int .i64 ((spaceR s).2.2 : Nat)]) ∧ Below w.heap.size w w'
set_option maxRecDepth 100000 in
set_option maxHeartbeats 1600000 in
theorem readSpace_any (s : ByteArray) (hs : s.size ≤ 1000000) (w : World) (hT : Lib.Utf8Tabs 0 1 w) : Calls Tryd.prog 18 #[.string s] w (RsPost s w) := by
  have HT := Lib.hid hT
  clear hT
  go_enter Tryd.func18, Tryd.ntmps18
  go_wp2_with fail
  refine (makeLexer_any _ _ s hs _).mono ?_
  rintro e1 w1 ⟨⟨b, rfl, hb, hl⟩, hb1⟩
  have HL := Lib.hid hl
  have HB := Lib.hid hb1
  have HG := Lib.hid hb
  have HT1 := Lib.hid (show TabsAt b w1 from ⟨w, HT.out, hb, hb1⟩)
  clear hl hb1 hb
  go_wp2_with fail
  refine (white_any b s 0 hs (by omega) _ HL.out HT1.out).mono ?_
  rintro e2 w2 ⟨l, i, t, rfl, hsp, -, -, hl2, hb2⟩
  have hr : spaceR s = (l, i, t) := hsp
  have HR := Lib.hid hr
  have HB2 := Lib.hid (HB.out.trans (hb2.mono HG.out))
  clear hb2 hsp hr
  obtain ⟨_, _, _, _, _, _, _, _, _, _, _, hB, -⟩ := hl2
  have c10 := hB.cell 10
  simp only [cellsX, List.getElem?_toArray, List.getElem?_cons_zero, List.getElem?_cons_succ] at c10
  clear hB
  go_wp2_with fail
  go_quiet ((fail))
  go_wp2_with fail
  go_ret3
  refine ⟨?_, below_drewB HB2.out _⟩
  rw [HR.out]
  rfl
set_option maxRecDepth 100000 in
theorem implSpace_any (s : ByteArray) (hs : s.size ≤ 1000000) (w : World) (hT : Lib.Utf8Tabs 0 1 w) : Calls Tryd.prog 8 #[.string s] w (RsPost s w) := by
  have HT := Lib.hid hT
  clear hT
  go_enter Tryd.func8, Tryd.ntmps8
  go_wp2_with fail
  refine (readSpace_any s hs _ HT.out).mono ?_
  rintro e1 w1 ⟨rfl, hb1⟩
  have HB := Lib.hid hb1
  clear hb1
  go_wp2_with fail
  go_ret3
  exact ⟨rfl, HB.out⟩
def ShPost (s : ByteArray) (w : World) (e : Ending) (w' : World) : Prop := (∃ b : Bool, e = .returned (.bool b) ∧ (b = true → s.size ≤ 2000)) ∧ w = w'
set_option maxRecDepth 100000 in
theorem short_any (s : ByteArray) (hs : s.size ≤ 2147483647) (w : World) : Calls Tryd.prog 6 #[.string s] w (ShPost s w) := by
  by_cases h : s.size ≤ 2000
  · go_enter Tryd.func6, Tryd.ntmps6
    go_wp2_with fail
    refine (readable_any s hs _).mono ?_
    rintro e1 w1 ⟨⟨b, rfl, -⟩, rfl⟩
    go_wp2_with fail
    go_ret
    exact ⟨⟨b, rfl, fun _ => h⟩, rfl⟩
  · go_enter Tryd.func6, Tryd.ntmps6
    go_wp2_with fail
    go_ret
    exact ⟨⟨false, rfl, fun h => by cases h⟩, rfl⟩
def TruePost (w : World) (e : Ending) (w' : World) : Prop := e = .returned (.bool true) ∧ Below w.heap.size w w'
set_option maxRecDepth 100000 in
set_option maxHeartbeats 1600000 in
theorem spaceRead_walk (s : ByteArray) (hs : s.size ≤ maxLen) (w : World) (hT : Lib.Utf8Tabs 0 1 w) : Calls Tryd.prog 3 #[.string s] w (TruePost w) := by
  have HT := Lib.hid hT
  clear hT
  unfold maxLen at hs
  by_cases hbig : 2147483647 < s.size
  · go_enter Tryd.func3, Tryd.ntmps3
    go_wp2_with fail
    go_ret
    exact ⟨rfl, Below.refl _ _⟩
  · go_enter Tryd.func3, Tryd.ntmps3
    go_wp2_with fail
    refine (short_any s (by omega) _).mono ?_
    rintro e1 w1 ⟨⟨b, rfl, hb⟩, rfl⟩
    cases b with
    | false =>
      clear hb
      go_wp2_with fail
      go_ret
      exact ⟨rfl, Below.refl _ _⟩
    | true =>
      have h2 := hb rfl
      clear hb
      go_wp2_with fail
      refine (spec_SpaceRead_any s (by omega) _).mono ?_
      rintro e2 w2 ⟨rfl, rfl⟩
      go_wp2_with fail
      refine (implSpace_any s (by omega) _ HT.out).mono ?_
      rintro e3 w3 ⟨rfl, hb3⟩
      have HB := Lib.hid hb3
      clear hb3
      go_wp2_with fail
      go_ret
      exact ⟨rfl, HB.out⟩
end Go.Proofs.YtpgmnggicmbacaaDoor
