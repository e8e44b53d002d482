/-
  Texts as values: makeValueString, str, getString: a flat string has the code points that the language reads.
-/
import Derived.Test.YtijfabahpplimaaUnits
import Derived.Laws.Append
import Derived.Laws.AppendOwn
namespace Go.Proofs.Ytijfabahpplimaa
open Go.RowKit

/-- The code points, as the language reads them. -/
def runes (s : ByteArray) : Array Value := Conv.runesFrom s s.size 0 #[]
theorem run_runes (s : ByteArray) (w : World) : ∃ cap, (runes s).size ≤ cap ∧ (convert 9 99 (.string s)).run Try.prog w = .ok (.slice (some ⟨w.heap.size, 0, none⟩) (runes s).size cap) (w.drew.alloc (.cells (runes s ++ Array.replicate (cap - (runes s).size) (.int .i32 0)) 21)) := by
  refine ⟨grownCap w (runes s).size 0 21, grownCap_ge _ _ _ _, ?_⟩
  simp [convert, run_underlying Try.underlying9, run_underlying Try.underlying99, run_underlying Try.underlying21, Conv.stringToRunes, newRow, Question.forced, grownCap, runes]

/-- A flat string's value: its code points. -/
def FlatS (w : World) (B : Nat) (v : Value) (rs : Array Value) : Prop :=
  ∃ g A c, v = .iface 128 (.pointer (some ⟨g, 0, none⟩)) ∧ (g < B ∧ rs.size ≤ c) ∧ Blk w g 131 #[.slice A rs.size c] ∧ Reads w B 1 A rs.size rs.toList
theorem FlatS.below {w w' : World} {B C : Nat} {v : Value} {rs : Array Value} (h : FlatS w B v rs) (hb : Below C w w') (hC : B ≤ C) : FlatS w' B v rs := by
  obtain ⟨g, A, c, h1, h2, h3, h4⟩ := h
  exact ⟨g, A, c, h1, h2, h3.below hb (by omega), h4.below (hb.mono hC)⟩
theorem FlatS.more {w : World} {B C : Nat} {v : Value} {rs : Array Value} (h : FlatS w B v rs) (hC : B ≤ C) : FlatS w C v rs := by
  obtain ⟨g, A, c, h1, h2, h3, h4⟩ := h
  exact ⟨g, A, c, h1, by omega, h3, h4.more hC⟩

def MkS (s : ByteArray) (w : World) (e : Ending) (w' : World) : Prop := ∃ v, e = .returned v ∧ FlatS w' w'.heap.size v (runes s) ∧ Below w.heap.size w w'
set_option maxRecDepth 100000 in
theorem mkString_any (s : ByteArray) (w : World) :
    Calls Try.prog 34 #[.string s] w fun e w' => MkS s w e w' := by
  obtain ⟨cap, hcap, hr⟩ := run_runes s w
  obtain ⟨rs, hrs⟩ : ∃ rs, runes s = rs := ⟨_, rfl⟩
  have HRS := Lib.hid hrs
  rw [hrs] at hr hcap
  have HCAP := Lib.hid hcap
  clear hrs hcap
  go_enter Try.func34, Try.ntmps34
  go_wp2
  go_ret
  generalize hO : (Obj.cells (rs ++ Array.replicate (cap - rs.size) (.int .i32 0)) 21) = O
  have hb2 : Blk ((w.alloc O).alloc (.cells #[.slice (some ⟨w.heap.size, 0, none⟩) rs.size cap] 131)).drew (w.heap.size + 1) 131 #[.slice (some ⟨w.heap.size, 0, none⟩) rs.size cap] := by
    have := (Blk.new (w.alloc O) 131 #[.slice (some ⟨w.heap.size, 0, none⟩) rs.size cap]).drew
    simpa using this
  have hb1 : Blk ((w.alloc O).alloc (.cells #[.slice (some ⟨w.heap.size, 0, none⟩) rs.size cap] 131)).drew w.heap.size 21 (rs ++ Array.replicate (cap - rs.size) (.int .i32 0)) := by
    rw [← hO]
    exact ((Blk.new w _ _).alloc _).drew
  refine ⟨_, rfl, ⟨_, some ⟨w.heap.size, 0, none⟩, cap, rfl, ?_, by rw [HRS.out]; exact hb2, ?_⟩, (((Below.refl _ _).alloc (Nat.le_refl _) _).alloc (by simp) _).drew⟩
  · exact ⟨hb2.lt, by rw [HRS.out]; exact HCAP.out⟩
  · rw [HRS.out]
    refine ⟨by simp, fun _ => ⟨_, rfl, hb1.lt, fun j u hu => ?_⟩⟩
    refine World.news_of_block hb1 j u ?_
    have hj : j < rs.size := by
      have := (List.getElem?_eq_some_iff.1 hu).1
      simpa using this
    rw [Array.toList_append, List.getElem?_append_left (by simpa using hj)]
    exact hu

theorem str_any (s : ByteArray) (w : World) :
    Calls Try.prog 24 #[.string s] w fun e w' => MkS s w e w' := by
  go_enter Try.func24, Try.ntmps24
  go_wp2_with fail
  refine (mkString_any s _).mono ?_
  rintro e w1 ⟨v, rfl, h1, h2⟩
  have H1 := Lib.hid h1
  have H2 := Lib.hid h2
  clear h1 h2
  go_wp2
  go_ret
  exact ⟨v, rfl, H1.out, H2.out⟩

theorem run_asString (a : Option Addr) (w : World) : (Instr.typeAssert (.iface 128 (.pointer a)) 57 93 true).run Try.prog w = .ok (.tuple #[.iface 128 (.pointer a), .bool true]) w := by kernel_rfl
set_option maxRecDepth 100000 in
theorem getString_any (i : Value) (a : Option Addr) (w : World) :
    Calls Try.prog 31 #[i, .iface 128 (.pointer a)] w fun e w' => e = .returned (.tuple #[.iface 128 (.pointer a), .nilIface]) ∧ w = w' := by
  have ha := run_asString
  go_enter Try.func31, Try.ntmps31
  go_wp2
  go_ret2
  exact ⟨rfl, rfl⟩
theorem length_any (g : Nat) (A : Option Addr) (n c : Nat) (w : World) (h : w.cell? ⟨g, 0, none⟩ = some (.slice A n c)) :
    Calls Try.prog 95 #[.pointer (some ⟨g, 0, none⟩)] w fun e w' => e = .returned (.int .i64 n) ∧ w = w' := by
  go_enter Try.func95, Try.ntmps95
  go_wp2
  go_ret
  exact ⟨rfl, rfl⟩
theorem getRunes_any (g : Nat) (A : Option Addr) (n c : Nat) (w : World) (h : w.cell? ⟨g, 0, none⟩ = some (.slice A n c)) :
    Calls Try.prog 92 #[.pointer (some ⟨g, 0, none⟩)] w fun e w' => e = .returned (.slice A n c) ∧ w = w' := by
  go_enter Try.func92, Try.ntmps92
  go_wp2
  go_ret
  exact ⟨rfl, rfl⟩
theorem method_length (a : Addr) (w : World) : (method 334 128 (.pointer (some a)) "given.example/pub-rondel/pub/jsonnet.length").run Try.prog w = .ok (95, .pointer (some a)) w := by kernel_rfl
theorem method_getRunes (a : Addr) (w : World) : (method 334 128 (.pointer (some a)) "given.example/pub-rondel/pub/jsonnet.getRunes").run Try.prog w = .ok (92, .pointer (some a)) w := by kernel_rfl
end Go.Proofs.Ytijfabahpplimaa
