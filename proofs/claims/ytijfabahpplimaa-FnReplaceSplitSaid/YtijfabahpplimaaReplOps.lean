/-
  builtinStrReplace, PartReplace, impl.TextReplace: the text with another one between its parts.
-/
import Derived.Test.YtijfabahpplimaaReplace
namespace Go.Proofs.Ytijfabahpplimaa
open Go.RowKit

/-- A flat string that is this text. -/
def GoS (w : World) (B : Nat) (v : Value) (s : ByteArray) : Prop := ∃ l : List Nat, text l = s ∧ FlatS w B v (runesOf l)
theorem GoS.below {w w' : World} {B C : Nat} {v : Value} {s : ByteArray} (h : GoS w B v s) (hb : Below C w w') (hC : B ≤ C) : GoS w' B v s := by
  obtain ⟨l, h1, h2⟩ := h
  exact ⟨l, h1, h2.below hb hC⟩
theorem GoS.more {w : World} {B C : Nat} {v : Value} {s : ByteArray} (h : GoS w B v s) (hC : B ≤ C) : GoS w C v s := by
  obtain ⟨l, h1, h2⟩ := h
  exact ⟨l, h1, h2.more hC⟩
theorem GoS.call {w : World} {B : Nat} {v : Value} {s : ByteArray} (h : GoS w B v s) (hB : B ≤ w.heap.size) :
    ∃ g : Nat, v = .iface 128 (.pointer (some ⟨g, 0, none⟩)) ∧ Calls Try.prog 91 #[.pointer (some ⟨g, 0, none⟩)] w fun e w' => e = .returned (.string s) ∧ w = w' := by
  obtain ⟨l, h1, h2⟩ := h
  obtain ⟨g, A, c, rfl, hg, hb, hr⟩ := h2.more hB
  have hsz : (runesOf l).size = l.length := by simp [runesOf]
  rw [hsz] at hb hr
  exact ⟨g, rfl, getGoString_any g A l.length c l w (hb.cell 0) rfl hr s h1⟩
def GoPost (s : ByteArray) (w : World) (e : Ending) (w' : World) : Prop := ∃ v, e = .returned v ∧ GoS w' w'.heap.size v s ∧ Below w.heap.size w w'
theorem goS_of {w : World} {B : Nat} {v : Value} {s : ByteArray} (ht : Txt s) (h : FlatS w B v (runes s)) : GoS w B v s := by
  obtain ⟨l, h1, rfl⟩ := ht
  rw [text_runes l h1] at h
  exact ⟨l, rfl, h⟩
theorem mkString_go (s : ByteArray) (ht : Txt s) (w : World) : Calls Try.prog 34 #[.string s] w (GoPost s w) := by
  refine (mkString_any s w).mono ?_
  rintro e w' ⟨v, h1, h2, h3⟩
  exact ⟨v, h1, goS_of ht h2, h3⟩
theorem str_go (s : ByteArray) (ht : Txt s) (w : World) : Calls Try.prog 24 #[.string s] w (GoPost s w) := by
  refine (str_any s w).mono ?_
  rintro e w' ⟨v, h1, h2, h3⟩
  exact ⟨v, h1, goS_of ht h2, h3⟩
theorem strOf_go (v : Value) (s : ByteArray) (w : World) (h : GoS w w.heap.size v s) :
    Calls Try.prog 25 #[v, .nilIface] w fun e w' => e = .returned (.tuple #[.string s, .nilIface]) ∧ w = w' := by
  obtain ⟨l, h1, h2⟩ := h
  exact strOf_ok v l w h2 s h1

def RepPost (R : ByteArray) (w : World) (e : Ending) (w' : World) : Prop := ∃ v, e = .returned (.tuple #[v, .nilIface]) ∧ GoS w' w'.heap.size v R ∧ Below w.heap.size w w'
set_option maxRecDepth 100000 in
set_option maxHeartbeats 1600000 in
theorem strReplace_any (i v1 v2 v3 : Value) (s f t R : ByteArray) (w : World) (h1 : GoS w w.heap.size v1 s) (h2 : GoS w w.heap.size v2 f) (h3 : GoS w w.heap.size v3 t) (hs : s.size ≤ 2000) (h0 : 0 < f.size) (hf : f.size ≤ 2000) (ht : t.size ≤ 2000)
    (hR : repl f t (s.size + 1) ByteArray.empty s = R) (hT : Txt R) :
    Calls Try.prog 26 #[i, v1, v2, v3] w (RepPost R w) := by
  obtain ⟨g1, rfl, k1⟩ := h1.call (Nat.le_refl _)
  obtain ⟨g2, rfl, k2⟩ := h2.call (Nat.le_refl _)
  obtain ⟨g3, rfl, k3⟩ := h3.call (Nat.le_refl _)
  have K1 := Lib.hid k1
  have K2 := Lib.hid k2
  have K3 := Lib.hid k3
  have KR := Lib.hid (zzReplace_any s f t R hs h0 hf ht hR)
  have HT := Lib.hid hT
  have q2 := method_getGoString
  clear h1 h2 h3 k1 k2 k3 hR hT
  go_enter Try.func26, Try.ntmps26
  go_wp2_with (go_at_call 31; refine (getString_any _ _ _).mono ?_; rintro e w' ⟨rfl, rfl⟩)
  refine K1.out.mono ?_
  rintro e w' ⟨rfl, rfl⟩
  go_wp2_with fail
  refine K2.out.mono ?_
  rintro e w' ⟨rfl, rfl⟩
  go_wp2_with fail
  refine K3.out.mono ?_
  rintro e w' ⟨rfl, rfl⟩
  go_wp2_with fail
  refine (KR.out _).mono ?_
  rintro e w' ⟨rfl, rfl⟩
  go_wp2_with fail
  refine (mkString_go R HT.out _).mono ?_
  rintro e w1 ⟨v, rfl, hg, hb⟩
  have HG := Lib.hid hg
  have HB := Lib.hid hb
  clear hg hb
  go_wp2_with fail
  go_ret2
  exact ⟨v, rfl, HG.out, HB.out⟩

set_option maxRecDepth 100000 in
set_option maxHeartbeats 1600000 in
theorem partReplace_any (s f t R : ByteArray) (w : World) (ts : Txt s) (tf : Txt f) (tt : Txt t) (hs : s.size ≤ 2000) (h0 : 0 < f.size) (hf : f.size ≤ 2000) (ht : t.size ≤ 2000)
    (hR : repl f t (s.size + 1) ByteArray.empty s = R) (hT : Txt R) :
    Calls Try.prog 16 #[.string s, .string f, .string t] w fun e w' => e = .returned (.tuple #[.string R, .nilIface]) ∧ Below w.heap.size w w' := by
  have TS := Lib.hid ts
  have TF := Lib.hid tf
  have TT := Lib.hid tt
  have HR := Lib.hid hR
  have HT := Lib.hid hT
  clear ts tf tt hR hT
  go_enter Try.func16, Try.ntmps16
  go_wp2_with fail
  refine (str_go s TS.out _).mono ?_
  rintro e w1 ⟨v1, rfl, g1, b1⟩
  have B1 := Lib.hid (((Below.refl w.heap.size w).alloc (Nat.le_refl _) _).trans (b1.mono (by simp)))
  have G1 := Lib.hid g1
  clear g1 b1
  go_wp2_with fail
  refine (str_go f TF.out _).mono ?_
  rintro e w2 ⟨v2, rfl, g2, b2⟩
  have B2 := Lib.hid (B1.out.trans (b2.mono B1.out.size))
  have G12 := Lib.hid ((G1.out.below b2 (Nat.le_refl _)).more b2.size)
  have G2 := Lib.hid g2
  clear g2 b2 G1
  go_wp2_with fail
  refine (str_go t TT.out _).mono ?_
  rintro e w3 ⟨v3, rfl, g3, b3⟩
  have B3 := Lib.hid (B2.out.trans (b3.mono B2.out.size))
  have G13 := Lib.hid ((G12.out.below b3 (Nat.le_refl _)).more b3.size)
  have G23 := Lib.hid ((G2.out.below b3 (Nat.le_refl _)).more b3.size)
  have G3 := Lib.hid g3
  clear g3 b3 G12 G2
  go_wp2_with fail
  refine (strReplace_any _ v1 v2 v3 s f t R _ G13.out G23.out G3.out hs h0 hf ht HR.out HT.out).mono ?_
  rintro e w4 ⟨v4, rfl, g4, b4⟩
  have B4 := Lib.hid (B3.out.trans (b4.mono B3.out.size))
  have G4 := Lib.hid g4
  clear g4 b4
  go_wp2_with fail
  refine (strOf_go v4 R _ G4.out).mono ?_
  rintro e w5 ⟨rfl, rfl⟩
  go_wp2_with fail
  go_ret2
  exact ⟨rfl, B4.out⟩
theorem textReplace_any (s f t R : ByteArray) (w : World) (ts : Txt s) (tf : Txt f) (tt : Txt t) (hs : s.size ≤ 2000) (h0 : 0 < f.size) (hf : f.size ≤ 2000) (ht : t.size ≤ 2000)
    (hR : repl f t (s.size + 1) ByteArray.empty s = R) (hT : Txt R) :
    Calls Try.prog 8 #[.string s, .string f, .string t] w fun e w' => e = .returned (.tuple #[.string R, .bool true]) ∧ Below w.heap.size w w' := by
  have K := Lib.hid (fun w => partReplace_any s f t R w ts tf tt hs h0 hf ht hR hT)
  clear ts tf tt hs h0 hf ht hR hT
  go_enter Try.func8, Try.ntmps8
  go_wp2_with fail
  refine (K.out _).mono ?_
  rintro e w1 ⟨rfl, hb⟩
  have B1 := Lib.hid hb
  clear hb
  go_wp2_with (go_at_call 15; refine (text_ok _ _).mono ?_; rintro e w' ⟨rfl, rfl⟩)
  go_ret2
  exact ⟨rfl, B1.out⟩
end Go.Proofs.Ytijfabahpplimaa
