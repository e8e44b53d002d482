/-
  impl.TextCodepoint, and the walk of FnCodepointExact: it answers true.
-/
import Derived.Test.YtijfabahpplimaaText
import Derived.Test.YtijfabahpplimaaNumOps3
import Derived.Test.YtijfabahpplimaaFlo
import Derived.Laws.FloatArith
namespace Go.Proofs.Ytijfabahpplimaa
open Go.RowKit

set_option maxRecDepth 100000 in
theorem codepoint_no (ig : Nat) (v : Value) (rs : Array Value) (w : World) (hv : FlatS w w.heap.size v rs) (hne : rs.size ≠ 1) (h5 : w.cell? ⟨ig, 5, none⟩ = some (.pointer none)) (h7 : w.cell? ⟨ig, 7, none⟩ = some (.slice none 0 0)) :
    Calls Try.prog 23 #[.pointer (some ⟨ig, 0, none⟩), v] w fun e w' => (∃ u, e = .returned (.tuple #[.nilIface, .iface 121 u])) ∧ Below w.heap.size w w' := by
  obtain ⟨g, A, c, rfl, hg, hblk, hrd⟩ := hv
  have x1 : w.cell? ⟨g, 0, none⟩ = some (.slice A rs.size c) := hblk.cell 0
  have q1 := method_length
  have hb : ((rs.size : Int) == 1) = false := by simp; omega
  have hb' : ((rs.size : Int) != 1) = true := by simp; omega
  clear hrd hblk hne
  go_enter Try.func23, Try.ntmps23
  go_wp2_with (first
    | (go_at_call 31; refine (getString_any _ _ _).mono ?_; rintro e w' ⟨rfl, rfl⟩)
    | (go_at_call 95; refine (length_any _ _ _ _ _ x1).mono ?_; rintro e w' ⟨rfl, rfl⟩)
    | (go_at_call 32; refine (error_any ig _ _ h5 h7).mono ?_; rintro e w1 ⟨⟨u, rfl⟩, hb1⟩))
  go_ret2
  exact ⟨⟨_, rfl⟩, hb1⟩
set_option maxRecDepth 100000 in
theorem codepoint_yes (ig : Nat) (v : Value) (r : Nat) (w : World) (hv : FlatS w w.heap.size v #[.int .i32 (Int.ofNat r)]) :
    Calls Try.prog 23 #[.pointer (some ⟨ig, 0, none⟩), v] w fun e w' => (∃ g, e = .returned (.tuple #[.iface 91 (.pointer (some ⟨g, 0, none⟩)), .nilIface]) ∧ w'.cell? ⟨g, 0, none⟩ = some (.float .f64 (floatOfInt .f64 (Int.ofNat r)))) ∧ Below w.heap.size w w' := by
  obtain ⟨g, A, c, rfl, hg, hblk, hrd⟩ := hv
  have x1 : w.cell? ⟨g, 0, none⟩ = some (.slice A 1 c) := hblk.cell 0
  obtain ⟨ad, rfl, -, hc⟩ := hrd.2 (by simp)
  have hc0 : w.cell? ad = some (.int .i32 (Int.ofNat r)) := by
    have := hc 0 _ rfl
    simpa [Addr.add] using this
  have q1 := method_length
  have q2 := method_getRunes
  clear hrd hblk hc
  generalize Int.ofNat r = rr at *
  go_enter Try.func23, Try.ntmps23
  go_wp2_with (first
    | (go_at_call 31; refine (getString_any _ _ _).mono ?_; rintro e w' ⟨rfl, rfl⟩)
    | (go_at_call 95; refine (length_any _ _ 1 _ _ x1).mono ?_; rintro e w' ⟨rfl, rfl⟩)
    | (go_at_call 92; refine (getRunes_any _ _ 1 _ _ x1).mono ?_; rintro e w' ⟨rfl, rfl⟩)
    | (go_at_call 33; refine (makeNum_any _ _).mono ?_; rintro e w' ⟨rfl, rfl⟩))
  go_ret2
  exact ⟨⟨_, rfl, by simp⟩, (Below.refl _ _).alloc (Nat.le_refl _) _⟩

/-- What the door answers of a text's code points. -/
def CpRes (rs : Array Value) (z : Nat) (b : Bool) : Prop := (rs.size ≠ 1 → b = false) ∧ ∀ r : Nat, rs = #[.int .i32 (Int.ofNat r)] → b = true ∧ z = floatOfInt .f64 (Int.ofNat r)

set_option maxRecDepth 100000 in
theorem codepoint_part (s : ByteArray) (rs : Array Value) (hrs : runes s = rs) (hshape : rs.size ≠ 1 ∨ ∃ r : Nat, rs = #[.int .i32 (Int.ofNat r)]) (w : World) :
    Calls Try.prog 14 #[.string s] w fun e w' => ((rs.size ≠ 1 ∧ ∃ u, e = .returned (.tuple #[.float .f64 0, .iface 121 u])) ∨ ∃ r : Nat, rs = #[.int .i32 (Int.ofNat r)] ∧ e = .returned (.tuple #[.float .f64 (floatOfInt .f64 (Int.ofNat r)), .nilIface])) ∧ Below w.heap.size w w' := by
  have HR := Lib.hid hrs
  have HS := Lib.hid hshape
  clear hrs hshape
  go_enter Try.func14, Try.ntmps14
  go_wp2_with fail
  refine (str_any s _).mono ?_
  rintro e w1 ⟨v, rfl, hf, hb⟩
  rw [HR.out] at hf
  have hblk : w1.cell? ⟨w.heap.size, 5, none⟩ = some (.pointer none) ∧ w1.cell? ⟨w.heap.size, 7, none⟩ = some (.slice none 0 0) := by
    constructor
    · refine (hb.cell (p := ⟨w.heap.size, 5, none⟩) (by simp)).trans ?_
      go_simp
    · refine (hb.cell (p := ⟨w.heap.size, 7, none⟩) (by simp)).trans ?_
      go_simp
  obtain ⟨k5, k7⟩ := hblk
  have hb1 : Below w.heap.size w w1 := ((Below.refl _ _).alloc (Nat.le_refl _) _).trans (hb.mono (by simp))
  have HB1 := Lib.hid hb1
  have HF := Lib.hid hf
  clear hb hb1 hf
  rcases HS.out with hne | ⟨r, hr⟩
  · go_wp2_with fail
    refine (codepoint_no w.heap.size v rs _ HF.out hne k5 k7).mono ?_
    rintro e w2 ⟨⟨u, rfl⟩, hb2⟩
    have HB2 := Lib.hid (HB1.out.trans (hb2.mono HB1.out.size))
    have HNE := Lib.hid hne
    clear hb2 hne
    go_wp2_with (go_at_call 22; refine (numOf_no _ _ _ _).mono ?_; rintro e w' ⟨rfl, rfl⟩)
    go_ret2
    exact ⟨.inl ⟨HNE.out, u, rfl⟩, HB2.out⟩
  · have HRR := Lib.hid hr
    have hf := HF.out
    rw [hr] at hf
    have HF' := Lib.hid hf
    clear hr hf
    go_wp2_with fail
    refine (codepoint_yes w.heap.size v r _ HF'.out).mono ?_
    rintro e w2 ⟨⟨g, rfl, hg⟩, hb2⟩
    have HB2 := Lib.hid (HB1.out.trans (hb2.mono HB1.out.size))
    clear hb2
    go_wp2_with (go_at_call 22; refine (numOf_ok g _ _ hg).mono ?_; rintro e w' ⟨rfl, rfl⟩)
    go_ret2
    exact ⟨.inr ⟨r, HRR.out, rfl⟩, HB2.out⟩

theorem codepoint_text (s : ByteArray) (rs : Array Value) (hrs : runes s = rs) (hshape : rs.size ≠ 1 ∨ ∃ r : Nat, rs = #[.int .i32 (Int.ofNat r)]) (w : World) :
    Calls Try.prog 7 #[.string s] w fun e w' => ((rs.size ≠ 1 ∧ e = .returned (.tuple #[.float .f64 0, .bool false])) ∨ ∃ r : Nat, rs = #[.int .i32 (Int.ofNat r)] ∧ e = .returned (.tuple #[.float .f64 (floatOfInt .f64 (Int.ofNat r)), .bool true])) ∧ Below w.heap.size w w' := by
  have HR := Lib.hid hrs
  have HS := Lib.hid hshape
  clear hrs hshape
  go_enter Try.func7, Try.ntmps7
  go_wp2_with fail
  refine (codepoint_part s rs HR.out HS.out _).mono ?_
  rintro e w1 ⟨h, hb⟩
  have HB := Lib.hid hb
  clear hb
  rcases h with ⟨hne, u, rfl⟩ | ⟨r, hr, rfl⟩
  · have HNE := Lib.hid hne
    clear hne
    go_wp2_with (go_at_call 13; refine (number_no _ _ _ _).mono ?_; rintro e w' ⟨rfl, rfl⟩)
    go_ret2
    exact ⟨.inl ⟨HNE.out, rfl⟩, HB.out⟩
  · have HRR := Lib.hid hr
    clear hr
    go_wp2_with (go_at_call 13; refine (number_ok _ _).mono ?_; rintro e w' ⟨rfl, rfl⟩)
    go_ret2
    exact ⟨.inr ⟨r, HRR.out, rfl⟩, HB.out⟩

theorem fin_point (r : Nat) (h : r ≤ 1114111) : (FloatKind.f64.format.order (floatOfInt .f64 (Int.ofNat r)) (floatOfInt .f64 (Int.ofNat r)) == some .eq) = true :=
  nan_no (.inl (int_fin (Int.ofNat r) (by have : (Int.ofNat r) = (r : Int) := rfl
                                          omega) (by have : (Int.ofNat r) = (r : Int) := rfl
                                                     omega)).1)
theorem runes_shape (l : List Nat) : (runesOf l).size ≠ 1 ∨ ∃ r : Nat, runesOf l = #[.int .i32 (Int.ofNat r)] := by
  rcases l with _ | ⟨a, _ | ⟨b, t⟩⟩
  · left; simp [runesOf]
  · right; exact ⟨a, rfl⟩
  · left; simp [runesOf]

set_option maxRecDepth 100000 in
set_option maxHeartbeats 800000 in
theorem codepoint_walk (s : ByteArray) (hs : s.size ≤ 9223372036854775807) (w : World) :
    Calls Try.prog 3 #[.string s] w fun e w' => e = .returned (.bool true) ∧ Below w.heap.size w w' := by
  by_cases hbig : 2147483647 < s.size
  · have d1 : decide ((2147483647 : Int) < (s.size : Int)) = true := by simp; omega
    go_enter Try.func3, Try.ntmps3
    go_wp2_with fail
    go_ret
    exact ⟨rfl, Below.refl _ _⟩
  have d1 : decide ((2147483647 : Int) < (s.size : Int)) = false := by simp; omega
  go_enter Try.func3, Try.ntmps3
  go_wp2_with fail
  refine (units9_any s (by omega) _).mono ?_
  rintro e w1 ⟨h, hb⟩
  have HB := Lib.hid hb
  clear hb
  rcases h with rfl | ⟨v, l, rfl, hown, hru, hle, hx⟩
  · go_wp2_with fail
    go_ret
    exact ⟨rfl, HB.out⟩
  have HO := Lib.hid hown
  have HRU := Lib.hid hru
  have HX := Lib.hid hx
  clear hown hru hx
  go_wp2_with fail
  refine (codepoint_text s (runesOf l) HRU.out (runes_shape l) _).mono ?_
  rintro e w2 ⟨h, hb⟩
  have HB2 := Lib.hid (HB.out.trans (hb.mono HB.out.size))
  have HB12 := Lib.hid hb
  clear hb
  have hsz : (runesOf l).size = l.length := by simp [runesOf]
  obtain ⟨A, c, hv⟩ : ∃ A c, v = .slice A l.length c := by
    rcases HO.out.2 with ⟨rfl, h0⟩ | ⟨g, cap, cur, rfl, _⟩
    · exact ⟨none, 0, by rw [h0]⟩
    · exact ⟨_, cap, rfl⟩
  subst hv
  rcases h with ⟨hne, rfl⟩ | ⟨r, hr, rfl⟩
  · rw [hsz] at hne
    clear hsz
    have hb1 : ((l.length : Int) == 1) = false := by simp; omega
    have hb1' : ((l.length : Int) != 1) = true := by simp; omega
    clear hne
    go_wp2_with fail
    go_ret
    exact ⟨rfl, HB2.out⟩
  · have hl1 : l.length = 1 := by rw [← hsz, hr]; rfl
    have hl : l = [r] := by
      obtain ⟨a, rfl⟩ : ∃ a, l = [a] := List.length_eq_one_iff.1 hl1
      have h2 : runesOf [a] = #[.int .i32 (Int.ofNat a)] := rfl
      rw [h2] at hr
      simp at hr
      have : a = r := Int.ofNat_inj.1 hr
      rw [this]
    subst hl
    have hrr : r ≤ 1114111 := HX.out r (by simp)
    obtain ⟨ad, rfl, -, hc⟩ := ((Reads.of_own HO.out).below HB12.out).2 (by simp)
    have hc0 : w2.cell? ad = some (.int .i64 (Int.ofNat r)) := by
      have := hc 0 _ rfl
      simpa [Addr.add] using this
    have hfp := fin_point r hrr
    clear hr hsz hl1 hc HX HRU
    have e1 : [r].length = 1 := rfl
    rw [e1]
    generalize Int.ofNat r = rr at *
    go_wp2_with fail
    go_ret
    exact ⟨rfl, HB2.out⟩
end Go.Proofs.Ytijfabahpplimaa
