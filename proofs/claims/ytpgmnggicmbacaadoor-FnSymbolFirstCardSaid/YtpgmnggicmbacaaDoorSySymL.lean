/-
  lexSymbol reads a comment of one line: no token.
-/
import Derived.Test.YtpgmnggicmbacaaDoorSyFod
import Derived.Test.YtpgmnggicmbacaaDoorSyUntil
import Derived.Test.YtpgmnggicmbacaaDoorLater
namespace Go.Proofs.YtpgmnggicmbacaaDoor
open Go.Shelf Go.RowKit
set_option linter.unusedVariables false
set_option linter.unusedSimpArgs false

/-- No token. -/
def NoTok (r : Option (Option (Int × ByteArray))) : Prop := r = none ∨ r = some none
theorem FdI.start {b : Nat} {s f g : ByteArray} {src : Option Addr} {w0 wr : World} {pos : Nat} {ls : Int} (h : LexK wr b s (K0 f g src) pos ls) (hg : w0.grownBy wr (some b)) : FdI b s f g src w0 wr pos 0 :=
  ⟨ls, .slice none 0 0, [], h.w, hg, World.ownsRow_nil _ _ _ _⟩
theorem FdI.below {b : Nat} {s f g : ByteArray} {src : Option Addr} {w0 wr w' : World} {pos n : Nat} (h : FdI b s f g src w0 wr pos n) (hb : Below wr.heap.size wr w') : FdI b s f g src w0 w' pos n := by
  obtain ⟨ls, F, xs, h1, h2, h3⟩ := h
  exact ⟨ls, F, xs, h1.below hb, grown_trans h2 (grown_below hb _), h3.kept (grown_below hb none) (by cases hq : F.ownBlock <;> simp)⟩
/-- The lexer's tokens stay none. -/
theorem FdI.post {b : Nat} {s f g : ByteArray} {src : Option Addr} {w0 wr : World} {pos n : Nat} (h : FdI b s f g src w0 wr pos n) : LsPost b w0 NoTok (.returned .nilIface) wr := by
  obtain ⟨ls, F, xs, h1, h2, h3⟩ := h
  exact ⟨h2, .inr (.inl ⟨rfl, (lexCells (show LexW wr b s _ pos ls from h1)).2.2.1, .inr rfl⟩)⟩
set_option maxRecDepth 100000 in
set_option maxHeartbeats 25600000 in
theorem lexSym_line (b : Nat) (s f g : ByteArray) (src : Option Addr) (hs : s.size ≤ 1000000) (hx : by_ s 0 = 47) (hlt : 1 < s.size) (hx1 : by_ s 1 = 47) (w : World) (h : LexK w b s (K0 f g src) 0 0) (hT : TabsAt b w) :
    Calls Tryd.prog 44 #[.pointer (some ⟨b, 0, none⟩)] w (LsPost b w NoTok) := by
  have hbl := h.lt
  obtain ⟨fr, c9⟩ := h.c9
  have H0 := Lib.hid (show OpI b s (K0 f g src) w w 0 from ⟨h, grown_below (Below.refl _ _) _⟩)
  have HT := Lib.hid hT
  have r47 : peekR s 1 = 47 := by rw [(peek_by hlt (by omega)).1, hx1]; rfl
  have R47 := Lib.hid r47
  have HX := Lib.hid hx
  clear h hT hx hx1 r47
  go_enter Tryd.func44, Tryd.ntmps44
  go_wp2_with fail
  refine (H0.out.nextC hs (by omega) (by rw [HX.out]; omega) (by rw [HX.out]; omega) HT.out hbl).mono ?_
  rintro e1 w1 ⟨rfl, h1⟩
  have H1 := Lib.hid h1
  clear h1 c9 H0
  rw [HX.out, show ((47 : Nat) : Int) = 47 from rfl]
  go_wp2_with fail
  refine (H1.out.peekC HT.out hbl).mono ?_
  rintro e2 w2 ⟨rfl, h2⟩
  have H2 := Lib.hid h2
  clear h2 H1
  rw [R47.out]
  go_wp2_with fail
  refine (untilK b s (K0 f g src) _ 0 hs (by omega) _ H2.out.1 (HT.out.grown H2.out.2 hbl)).mono ?_
  rintro e3 w3 ⟨t, bl, i, z, ls, rfl, g1, g2, g3, g4⟩
  have H3 := Lib.hid (FdI.start (w0 := w) g3 (grown_trans H2.out.2 g4))
  clear g3 g4 H2
  have hcat : ¬ 9223372036854775807 < (Utf8.encode 47).size + t.size := by rw [show (Utf8.encode 47).size = 1 from by decide]; omega
  cases fr
  · go_wp2_with fail
    refine (FdI.addC (H3.out.below (below_alloc1 _ _)) hbl 0 (bl : Int) (i : Int) _ 1 1 (.inl ⟨rfl, by omega⟩) (by omega) (by omega)).mono ?_
    rintro e4 w4 ⟨rfl, h4⟩
    have H4 := Lib.hid h4
    clear h4 H3
    go_wp2_with fail
    go_ret
    exact H4.out.post
  · go_wp2_with fail
    refine (FdI.addC (H3.out.below (below_alloc1 _ _)) hbl 2 (bl : Int) (i : Int) _ 1 1 (.inr (.inr ⟨rfl, by omega⟩)) (by omega) (by omega)).mono ?_
    rintro e4 w4 ⟨rfl, h4⟩
    have H4 := Lib.hid h4
    clear h4 H3
    go_wp2_with fail
    go_ret
    exact H4.out.post
end Go.Proofs.YtpgmnggicmbacaaDoor
