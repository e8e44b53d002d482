/-
  formatter.fixComma, CommaFix and impl.CommaFixed: what stands ahead of a last comma, whether that is there, and what stands ahead of the closing bracket.
-/
import Derived.Test.YthinfliplpjdjaaComma
import Derived.Test.YthinfliplpjdjaaMove
import Derived.Test.YthinfliplpjdjaaConcatWalk
import Derived.OneCell
namespace Go.Proofs.Ythinfliplpjdjaa
open Go.RowKit

theorem Fod.setBox {w : World} {b : Nat} {v : Value} {fs : List CE} {p : Nat} {t : TypeId} {cs : Array Value} (h : Fod w b v fs) (hb : Blk w p t cs) (t1 : 74 ≠ t) (t2 : 9 ≠ t) (u : Value) : Fod (w.setCell ⟨p, 0, none⟩ u) b v fs :=
  ⟨ownsRow_setCell_other h.1 (own_blk_ne h.1 hb t1) u, fun e he => ownsRow_setCell_other (h.2 e he) (own_blk_ne (h.2 e he) hb t2) u⟩

/-- The three boxes, and what they hold. -/
structure Fix (w : World) (base pl pc pe : Nat) (c : Bool) (V1 V2 : Value) (fl fe : List CE) : Prop where
  l : Blk w pl 58 #[V1]
  c : Blk w pc 4 #[.bool c]
  e : Blk w pe 58 #[V2]
  h1 : Fod w base V1 fl
  h2 : Fod w base V2 fe

theorem Fix.below {w w' : World} {base pl pc pe : Nat} {c : Bool} {V1 V2 : Value} {fl fe : List CE} (h : Fix w base pl pc pe c V1 V2 fl fe) (hb : Below w.heap.size w w') : Fix w' base pl pc pe c V1 V2 fl fe :=
  ⟨h.l.below hb h.l.lt, h.c.below hb h.c.lt, h.e.below hb h.e.lt, h.h1.below hb, h.h2.below hb⟩
theorem Fix.setc {w : World} {base pl pc pe : Nat} {c : Bool} {V1 V2 : Value} {fl fe : List CE} (h : Fix w base pl pc pe c V1 V2 fl fe) (c' : Bool) : Fix (w.setCell ⟨pc, 0, none⟩ (.bool c')) base pl pc pe c' V1 V2 fl fe :=
  ⟨h.l.far (p := ⟨pc, 0, none⟩) (h.l.ne_ h.c (by decide)) _, h.c.set_ 0 _, h.e.far (p := ⟨pc, 0, none⟩) (h.e.ne_ h.c (by decide)) _, h.h1.setBox h.c (by decide) (by decide) _, h.h2.setBox h.c (by decide) (by decide) _⟩

def FixOut (w : World) (pl pc pe : Nat) (c : Bool) (gl ge : List CE) : Prop :=
  ∃ A1 n1 c1 A2 n2 c2, Blk w pl 58 #[.slice A1 n1 c1] ∧ Blk w pc 4 #[.bool c] ∧ Blk w pe 58 #[.slice A2 n2 c2] ∧ FodR w w.heap.size A1 n1 gl ∧ FodR w w.heap.size A2 n2 ge
def FixRet (w : World) (base pl pc pe : Nat) (c : Bool) (gl ge : List CE) (e : Ending) (w' : World) : Prop :=
  e = .returned (.tuple #[]) ∧ Below base w w' ∧ FixOut w' pl pc pe c gl ge

theorem fodR_of {w : World} {base : Nat} {A : Option Addr} {n c : Nat} {fs : List CE} (h : Fod w base (.slice A n c) fs) : FodR w w.heap.size A n fs := by
  have hn : n = fs.length := by
    rcases h.1.2 with ⟨hv, hz⟩ | ⟨g, cap, cur, hv, _⟩
    · injection hv with h1 h2 h3; omega
    · injection hv
  subst hn
  exact ⟨rfl, Reads.of_own h.1, fun e he => Reads.of_own (h.2 e he)⟩

theorem Fix.out {w : World} {base pl pc pe : Nat} {c : Bool} {V1 V2 : Value} {fl fe : List CE} (h : Fix w base pl pc pe c V1 V2 fl fe) : FixOut w pl pc pe c fl fe := by
  obtain ⟨A1, n1, c1, rfl⟩ := own_slice h.h1.1
  obtain ⟨A2, n2, c2, rfl⟩ := own_slice h.h2.1
  exact ⟨A1, n1, c1, A2, n2, c2, h.l, h.c, h.e, fodR_of h.h1, fodR_of h.h2⟩

theorem fix_move (w : World) (base pl pc pe : Nat) (c : Bool) (A1 A2 : Option Addr) (n1 c1 n2 c2 : Nat) (fl fe : List CE) (h : Fix w base pl pc pe c (.slice A1 n1 c1) (.slice A2 n2 c2) fl fe) (hne : pe ≠ pl) (hpl : base ≤ pl) (hpe : base ≤ pe)
    (hsep : (Value.slice A1 n1 c1).ownBlock = none ∨ (Value.slice A1 n1 c1).ownBlock ≠ (Value.slice A2 n2 c2).ownBlock) (hbase : base ≤ w.heap.size) (hn1 : n1 ≤ 1000000) (hn2 : n2 ≤ 1000000)
    (hd : cleanB fl = false → ∀ b0, fe[0]? = some b0 → fl ≠ [] → b0.k ≠ 2) (t1 : Tame fl) (t2 : Tame fe) :
    Calls Try.prog 77 #[.pointer (some ⟨pe, 0, none⟩), .pointer (some ⟨pl, 0, none⟩)] w (FixRet w base pl pc pe c [] (concatC fl fe)) := by
  refine (move_any pe pl base A2 A1 n2 c2 n1 c1 fe fl w h.e h.l h.h2 h.h1 hne hpe hpl hsep hbase hn2 hn1 hd t2 t1).mono ?_
  rintro e w' ⟨rfl, A, n, k, g, ha, hr, hb, hbel, hf⟩
  refine ⟨rfl, hbel, some ⟨g, 0, none⟩, 0, 0, A, n, k, hb, ?_, ha, ⟨rfl, ⟨rfl, fun h => absurd h (by omega)⟩, fun e he => by cases he⟩, hr⟩
  exact (hf pc h.c.lt (Ne.symm (h.e.ne_ h.c (by decide))) (Ne.symm (h.l.ne_ h.c (by decide))) (Ne.symm (own_blk_ne h.h1.1 h.c (by decide)))).trans h.c

theorem newline_is (r : Bool) (A : Option Addr) (n c : Nat) (es : List CE) (w : World) (hr : breaksB (es.map CE.say) = r) (h : FodR w w.heap.size A n es) (hn : n ≤ 1000000) :
    Calls Try.prog 76 #[.slice A n c] w fun e w' => e = .returned (.bool r) ∧ Below w.heap.size w w' :=
  hr ▸ newline_any A n c es _ w h (Nat.le_refl _) (by unfold maxLen; omega)

/-- Whether the comma's fodder goes ahead of the bracket's. -/
def goes (c bl be : Bool) : Bool := c && (!be || bl)
def staysL (c bl be : Bool) (fl : List CE) : List CE := if goes c bl be = true then [] else fl
def staysE (c bl be : Bool) (fl fe : List CE) : List CE := if goes c bl be = true then concatC fl fe else fe

set_option maxRecDepth 100000 in
set_option maxHeartbeats 1600000 in
theorem fix_any (rc : Value) (w : World) (base pl pc pe : Nat) (c bl be : Bool) (A1 A2 : Option Addr) (n1 c1 n2 c2 : Nat) (fl fe : List CE) (h : Fix w base pl pc pe c (.slice A1 n1 c1) (.slice A2 n2 c2) fl fe) (hne : pe ≠ pl) (hpl : base ≤ pl) (hpe : base ≤ pe) (hpc : base ≤ pc)
    (hsep : (Value.slice A1 n1 c1).ownBlock = none ∨ (Value.slice A1 n1 c1).ownBlock ≠ (Value.slice A2 n2 c2).ownBlock) (hbase : base ≤ w.heap.size) (hn1 : n1 ≤ 1000000) (hn2 : n2 ≤ 1000000)
    (hd : cleanB fl = false → ∀ b0, fe[0]? = some b0 → fl ≠ [] → b0.k ≠ 2) (t1 : Tame fl) (t2 : Tame fe) (hbl : breaksB (fl.map CE.say) = bl) (hbe : breaksB (fe.map CE.say) = be) :
    Calls Try.prog 62 #[rc, .pointer (some ⟨pl, 0, none⟩), .pointer (some ⟨pc, 0, none⟩), .pointer (some ⟨pe, 0, none⟩)] w
      (FixRet w base pl pc pe (bl || be) (staysL c bl be fl) (staysE c bl be fl fe)) := by
  have x1 : w.cell? ⟨pl, 0, none⟩ = some (.slice A1 n1 c1) := h.l.cell 0
  have x2 : w.cell? ⟨pc, 0, none⟩ = some (.bool c) := h.c.cell 0
  have x3 : w.cell? ⟨pe, 0, none⟩ = some (.slice A2 n2 c2) := h.e.cell 0
  have HH := Lib.hid h
  have HD := Lib.hid hd
  have T1 := Lib.hid t1
  have T2 := Lib.hid t2
  have SP := Lib.hid hsep
  have NE := Lib.hid hne
  have BL := Lib.hid hbl
  have BE := Lib.hid hbe
  clear h hd t1 t2 hsep hne hbl hbe
  go_enter Try.func62, Try.ntmps62
  go_wp2_with fail
  refine (newline_is be A2 n2 c2 fe _ BE.out (fodR_of HH.out.h2) hn2).mono ?_
  rintro e1 w1 ⟨rfl, b1⟩
  have H1 := HH.out.below b1
  have y1 : w1.cell? ⟨pl, 0, none⟩ = some (.slice A1 n1 c1) := H1.l.cell 0
  have y2 : w1.cell? ⟨pc, 0, none⟩ = some (.bool c) := H1.c.cell 0
  have y3 : w1.cell? ⟨pe, 0, none⟩ = some (.slice A2 n2 c2) := H1.e.cell 0
  have z2 : w1.frozen? ⟨pc, 0, none⟩ = false := H1.c.frozen 0
  have F1 := Lib.hid H1
  have B1 := Lib.hid b1
  have s1 := b1.size
  clear H1 b1 x1 x2 x3
  cases be
  case false =>
    go_wp2_with fail
    refine (newline_is bl A1 n1 c1 fl _ BL.out (fodR_of F1.out.h1) hn1).mono ?_
    rintro e2 w2 ⟨rfl, b2⟩
    have H2 := F1.out.below b2
    have y1 : w2.cell? ⟨pl, 0, none⟩ = some (.slice A1 n1 c1) := H2.l.cell 0
    have y2 : w2.cell? ⟨pc, 0, none⟩ = some (.bool c) := H2.c.cell 0
    have y3 : w2.cell? ⟨pe, 0, none⟩ = some (.slice A2 n2 c2) := H2.e.cell 0
    have z2 : w2.frozen? ⟨pc, 0, none⟩ = false := H2.c.frozen 0
    have F2 := Lib.hid H2
    have B2 := Lib.hid (B1.out.trans (b2.mono s1))
    have s2 := Nat.le_trans s1 b2.size
    clear H2 b2
    cases c <;> cases bl
    · go_wp2_with fail
      go_end0
      exact ⟨rfl, B2.out.mono hbase, F2.out.out⟩
    · go_wp2_with fail
      go_end0
      exact ⟨rfl, (B2.out.mono hbase).setCell hpc _, (F2.out.setc true).out⟩
    · go_wp2_with fail
      refine (fix_move _ base pl pc pe _ A1 A2 n1 c1 n2 c2 fl fe (F2.out.setc false) NE.out hpl hpe SP.out (Nat.le_trans hbase (by simpa [World.setCell] using s2)) hn1 hn2 HD.out T1.out T2.out).mono ?_
      rintro e9 w9 ⟨rfl, b9, o9⟩
      have O9 := Lib.hid o9
      have B9 := Lib.hid (((B2.out.mono hbase).setCell (p := ⟨pc, 0, none⟩) hpc (.bool false)).trans b9)
      clear o9 b9
      go_wp2_with fail
      go_end0
      exact ⟨rfl, B9.out, O9.out⟩
    · go_wp2_with fail
      refine (newline_is true A1 n1 c1 fl _ BL.out (fodR_of F2.out.h1) hn1).mono ?_
      rintro e3 w3 ⟨rfl, b3⟩
      have H3 := F2.out.below b3
      have y1 : w3.cell? ⟨pl, 0, none⟩ = some (.slice A1 n1 c1) := H3.l.cell 0
      have y2 : w3.cell? ⟨pc, 0, none⟩ = some (.bool true) := H3.c.cell 0
      have y3 : w3.cell? ⟨pe, 0, none⟩ = some (.slice A2 n2 c2) := H3.e.cell 0
      have z2 : w3.frozen? ⟨pc, 0, none⟩ = false := H3.c.frozen 0
      have F3 := Lib.hid H3
      have B3 := Lib.hid (B2.out.trans (b3.mono s2))
      have s3 := Nat.le_trans s2 b3.size
      clear H3 b3
      go_wp2_with fail
      refine (fix_move _ base pl pc pe _ A1 A2 n1 c1 n2 c2 fl fe F3.out NE.out hpl hpe SP.out (Nat.le_trans hbase s3) hn1 hn2 HD.out T1.out T2.out).mono ?_
      rintro e9 w9 ⟨rfl, b9, o9⟩
      have O9 := Lib.hid o9
      have B9 := Lib.hid ((B3.out.mono hbase).trans b9)
      clear o9 b9
      go_wp2_with fail
      go_end0
      exact ⟨rfl, B9.out, O9.out⟩
  case true =>
    cases c
    · go_wp2_with fail
      go_end0
      exact ⟨rfl, (B1.out.mono hbase).setCell hpc _, by cases bl <;> exact (F1.out.setc true).out⟩
    · go_wp2_with fail
      refine (newline_is bl A1 n1 c1 fl _ BL.out (fodR_of F1.out.h1) hn1).mono ?_
      rintro e2 w2 ⟨rfl, b2⟩
      have H2 := F1.out.below b2
      have y1 : w2.cell? ⟨pl, 0, none⟩ = some (.slice A1 n1 c1) := H2.l.cell 0
      have y2 : w2.cell? ⟨pc, 0, none⟩ = some (.bool true) := H2.c.cell 0
      have y3 : w2.cell? ⟨pe, 0, none⟩ = some (.slice A2 n2 c2) := H2.e.cell 0
      have z2 : w2.frozen? ⟨pc, 0, none⟩ = false := H2.c.frozen 0
      have F2 := Lib.hid H2
      have B2 := Lib.hid (B1.out.trans (b2.mono s1))
      have s2 := Nat.le_trans s1 b2.size
      clear H2 b2
      cases bl
      · go_wp2_with fail
        go_end0
        exact ⟨rfl, B2.out.mono hbase, F2.out.out⟩
      · go_wp2_with fail
        refine (fix_move _ base pl pc pe _ A1 A2 n1 c1 n2 c2 fl fe F2.out NE.out hpl hpe SP.out (Nat.le_trans hbase s2) hn1 hn2 HD.out T1.out T2.out).mono ?_
        rintro e9 w9 ⟨rfl, b9, o9⟩
        have O9 := Lib.hid o9
        have B9 := Lib.hid ((B2.out.mono hbase).trans b9)
        clear o9 b9
        go_wp2_with fail
        go_end0
        exact ⟨rfl, B9.out, O9.out⟩
end Go.Proofs.Ythinfliplpjdjaa
