/-
  impl.Escape, impl.Unescape and the statement's function.
-/
import Derived.Test.YtpgmnggicmbacaaDoorEsLaw
import Derived.Test.YtpgmnggicmbacaaDoorEsUn
import Derived.Test.YtpgmnggicmbacaaDoorEsEsc
import Derived.Test.YtpgmnggicmbacaaDoorEsSpec
namespace Go.Proofs.YtpgmnggicmbacaaDoor
open Go.Shelf Go.RowKit

set_option maxRecDepth 100000 in
theorem implEscape_any (s : ByteArray) (single : Bool) (hs : s.size ≤ 100000000) (w : World) (hT : Tabs3 w) :
    Calls Tryd.prog 10 #[.string s, .bool single] w (PePost s single w) := by
  have HT := Lib.hid hT
  clear hT
  go_enter Tryd.func10, Tryd.ntmps10
  go_wp2_with fail
  refine (escape_text s single hs _ HT.out).mono ?_
  rintro e1 w1 ⟨rfl, hb1⟩
  have HB := Lib.hid hb1
  clear hb1
  go_wp2_with fail
  go_ret
  exact ⟨rfl, HB.out⟩
/-- What impl.Unescape answers. -/
def IuPost (s : ByteArray) (w : World) (e : Ending) (w' : World) : Prop :=
  (match runP s s.size 0 [] with
    | none => e = .returned (.tuple #[.string ⟨#[]⟩, .bool false])
    | some l => e = .returned (.tuple #[.string ⟨l.toArray⟩, .bool true])) ∧ Below w.heap.size w w'
theorem Tabs3.alloc {w : World} (h : Tabs3 w) (o : Obj) : Tabs3 (w.alloc o) := h.below ((Below.refl _ _).alloc (Nat.le_refl _) _)
set_option maxRecDepth 100000 in
set_option maxHeartbeats 1600000 in
theorem implUnescape_any (s : ByteArray) (hs : s.size ≤ 100000000) (w : World) (hT : Tabs3 w) :
    Calls Tryd.prog 11 #[.string s] w (IuPost s w) := by
  have HT := Lib.hid hT
  clear hT
  go_enter Tryd.func11, Tryd.ntmps11
  go_wp2_with fail
  refine (unescape_any w.heap.size _ _ _ _ _ _ s hs _ (HT.out.alloc _) (Blk.new w _ _)).mono ?_
  rintro e1 w1 ⟨hcase, hb1⟩
  have HB := Lib.hid (show Below w.heap.size w w1 from ((Below.refl w.heap.size w).alloc (Nat.le_refl _) _).trans (hb1.mono (by simp)))
  clear hb1
  cases hr : runP s s.size 0 [] with
  | none =>
    rw [hr] at hcase
    obtain ⟨v, rfl⟩ := hcase
    have HR := Lib.hid hr
    clear hr
    go_wp2_with fail
    go_ret2
    exact ⟨by rw [HR.out]; rfl, HB.out⟩
  | some l =>
    rw [hr] at hcase
    obtain rfl := hcase
    have HR := Lib.hid hr
    clear hr
    go_wp2_with fail
    go_ret2
    exact ⟨by rw [HR.out]; rfl, HB.out⟩
def TruePost (w : World) (e : Ending) (w' : World) : Prop := e = .returned (.bool true) ∧ Below w.heap.size w w'
theorem list_back (s : ByteArray) : (⟨s.data.toList.toArray⟩ : ByteArray) = s := by
  cases s
  simp
theorem pieces_le (single : Bool) : ∀ l : List Nat, (pieces single l).length ≤ 6 * l.length
  | [] => by simp [pieces]
  | r :: l => by
    have h1 := pieces_le single l
    have h2 := escB_le single r
    have h3 : pieces single (r :: l) = escB single r ++ pieces single l := by simp [pieces]
    rw [h3, List.length_append, List.length_cons]
    omega
theorem pts_len {s : ByteArray} {i : Nat} {l : List Nat} (h : Pts s i l) : l.length ≤ i := by
  induction h with
  | nil => simp
  | snoc h hp ih =>
    have := hp.1
    rw [List.length_append]
    simp
    omega
set_option maxRecDepth 100000 in
set_option maxHeartbeats 1600000 in
theorem escapeBack_walk (s : ByteArray) (single : Bool) (hs : s.size ≤ maxLen) (w : World) (hT : Tabs3 w) : Calls Tryd.prog 4 #[.string s, .bool single] w (TruePost w) := by
  have HT := Lib.hid hT
  clear hT
  unfold maxLen at hs
  by_cases hbig : 2147483647 < s.size
  · go_enter Tryd.func4, Tryd.ntmps4
    go_wp2_with fail
    go_ret
    exact ⟨rfl, Below.refl _ _⟩
  by_cases h2 : 2000 < s.size
  · go_enter Tryd.func4, Tryd.ntmps4
    go_wp2_with fail
    go_ret
    exact ⟨rfl, Below.refl _ _⟩
  go_enter Tryd.func4, Tryd.ntmps4
  go_wp2_with fail
  refine (readable_any s (by omega) _).mono ?_
  rintro e1 w1 ⟨⟨b, rfl, hb⟩, rfl⟩
  cases b with
  | false =>
    clear hb
    go_wp2_with fail
    go_ret
    exact ⟨rfl, Below.refl _ _⟩
  | true =>
    obtain ⟨l, hl⟩ := hb rfl
    have HL := Lib.hid hl
    clear hb hl
    go_wp2_with fail
    refine (implEscape_any s single (by omega) _ HT.out).mono ?_
    rintro e2 w2 ⟨rfl, hb2⟩
    have HB2 := Lib.hid hb2
    clear hb2
    obtain ⟨E, hE⟩ : ∃ E : ByteArray, E = ⟨(runE s single s.size 0 []).toArray⟩ := ⟨_, rfl⟩
    rw [← hE]
    obtain ⟨law1, law2⟩ := back_law single HL.out hE
    have hsz : E.size ≤ 100000000 := by
      have h1 : E.size = (runE s single s.size 0 []).length := by rw [hE]; exact List.size_toArray
      rw [h1, runE_all single HL.out]
      have h3 := pieces_le single l
      have h4 := pts_len HL.out
      omega
    have L1 := Lib.hid law1
    have L2 := Lib.hid law2
    clear law1 law2 hE
    go_wp2_with fail
    refine (implUnescape_any E hsz _ (HT.out.below HB2.out)).mono ?_
    rintro e3 w3 ⟨hcase, hb3⟩
    have HB3 := Lib.hid (HB2.out.trans (hb3.mono HB2.out.size))
    clear hb3
    rw [L2.out] at hcase
    obtain rfl : e3 = .returned (.tuple #[.string ⟨s.data.toList.toArray⟩, .bool true]) := hcase
    (try clear hcase)
    rw [list_back s]
    go_wp2_with fail
    refine (spec_Unescape_any E hsz _).mono ?_
    rintro e4 w4 ⟨hcase, hb4⟩
    have HB4 := Lib.hid (HB3.out.trans (hb4.mono HB3.out.size))
    clear hb4
    rw [L1.out] at hcase
    obtain rfl : e4 = .returned (.tuple #[.string ⟨s.data.toList.toArray⟩, .bool true, .bool true]) := hcase
    (try clear hcase)
    rw [list_back s]
    have q : (s.toList == s.toList) = true := by simp
    go_wp2_with fail
    go_ret
    exact ⟨rfl, HB4.out⟩
end Go.Proofs.YtpgmnggicmbacaaDoor
