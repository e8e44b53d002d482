/-
  PartSubstr, impl.TextSubstr: the text of the code points from a place on.
-/
import Derived.Test.YtijfabahpplimaaSubstr
namespace Go.Proofs.Ytijfabahpplimaa
open Go.RowKit Ieee

theorem sub_scal {l : List Nat} (h : ∀ r ∈ l, Scal r) (a z : Nat) : ∀ r ∈ sub l a z, Scal r := by
  intro r hr
  unfold sub at hr
  split at hr
  · cases hr
  · exact h r (List.mem_of_mem_drop (List.mem_of_mem_take hr))

set_option maxRecDepth 100000 in
theorem substr_part (s : ByteArray) (l : List Nat) (a z : Nat) (hru : runes s = runesOf l) (hl : l.length ≤ 2147483647) (hsc : ∀ r ∈ l, Scal r) (ha : a ≤ 65535) (hz : z ≤ 65535) (x y : Nat) (hx : floatOfInt .f64 (a : Int) = x) (hy : floatOfInt .f64 (z : Int) = y) (S : ByteArray) (hS : text (sub l a z) = S) (w : World) :
    Calls Try.prog 19 #[.string s, .float .f64 x, .float .f64 y] w fun e w' => e = .returned (.tuple #[.string S, .nilIface]) ∧ Below w.heap.size w w' := by
  have HRU := Lib.hid hru
  have HSC := Lib.hid hsc
  have HX := Lib.hid hx
  have HY := Lib.hid hy
  have HS := Lib.hid hS
  clear hru hsc hx hy hS
  go_enter Try.func19, Try.ntmps19
  go_wp2_with fail
  refine (str_any s _).mono ?_
  rintro e w1 ⟨v, rfl, hf, hb⟩
  rw [HRU.out] at hf
  have B1 := Lib.hid (((Below.refl w.heap.size w).alloc (Nat.le_refl _) _).trans (hb.mono (by simp)))
  have F1 := Lib.hid hf
  clear hb hf
  go_wp2_with fail
  refine (num_any x _).mono ?_
  rintro e w2 ⟨rfl, rfl⟩
  go_wp2_with fail
  refine (num_any y _).mono ?_
  rintro e w2 ⟨rfl, rfl⟩
  have g1 : ((w1.alloc (.cells #[.float .f64 x] 90)).alloc (.cells #[.float .f64 y] 90)).cell? ⟨w1.heap.size, 0, none⟩ = some (.float .f64 x) := ((Blk.new w1 _ _).alloc _).cell 0
  have g2 : ((w1.alloc (.cells #[.float .f64 x] 90)).alloc (.cells #[.float .f64 y] 90)).cell? ⟨w1.heap.size + 1, 0, none⟩ = some (.float .f64 y) := by
    simp
  have b2 : Below w1.heap.size w1 ((w1.alloc (.cells #[.float .f64 x] 90)).alloc (.cells #[.float .f64 y] 90)) := ((Below.refl _ _).alloc (Nat.le_refl _) _).alloc (by simp) _
  have f2 := (F1.out.below b2 (Nat.le_refl _)).more b2.size
  have B2 := Lib.hid (B1.out.trans (b2.mono B1.out.size))
  have F2 := Lib.hid f2
  clear b2 f2
  generalize (w1.alloc (.cells #[.float .f64 x] 90)).alloc (.cells #[.float .f64 y] 90) = W at *
  go_wp2_with fail
  refine (substr_any _ v l w1.heap.size (w1.heap.size + 1) a z x y W F2.out hl g1 g2 HX.out HY.out ha hz S HS.out).mono ?_
  rintro e w3 ⟨v3, rfl, hf3, hb3⟩
  have hr3 : runes S = runesOf (sub l a z) := by
    rw [← HS.out]
    exact text_runes _ (sub_scal HSC.out a z)
  rw [hr3] at hf3
  have F3 := Lib.hid hf3
  have B3 := Lib.hid (B2.out.trans (hb3.mono B2.out.size))
  clear hf3 hb3 hr3
  go_wp2_with fail
  refine (strOf_ok v3 (sub l a z) _ F3.out S HS.out).mono ?_
  rintro e w4 ⟨rfl, rfl⟩
  go_wp2_with fail
  go_ret2
  exact ⟨rfl, B3.out⟩

theorem substr_text (s : ByteArray) (l : List Nat) (a z : Nat) (hru : runes s = runesOf l) (hl : l.length ≤ 2147483647) (hsc : ∀ r ∈ l, Scal r) (ha : a ≤ 65535) (hz : z ≤ 65535) (x y : Nat) (hx : floatOfInt .f64 (a : Int) = x) (hy : floatOfInt .f64 (z : Int) = y) (S : ByteArray) (hS : text (sub l a z) = S) (w : World) :
    Calls Try.prog 10 #[.string s, .float .f64 x, .float .f64 y] w fun e w' => e = .returned (.tuple #[.string S, .bool true]) ∧ Below w.heap.size w w' := by
  have K := Lib.hid (substr_part s l a z hru hl hsc ha hz x y hx hy S hS)
  clear hru hl hsc ha hz hx hy hS
  go_enter Try.func10, Try.ntmps10
  go_wp2_with fail
  refine (K.out _).mono ?_
  rintro e w1 ⟨rfl, hb⟩
  have B1 := Lib.hid hb
  clear hb
  go_wp2_with (go_at_call 15; refine (text_ok _ _).mono ?_; rintro e w' ⟨rfl, rfl⟩)
  go_ret2
  exact ⟨rfl, B1.out⟩
end Go.Proofs.Ytijfabahpplimaa
