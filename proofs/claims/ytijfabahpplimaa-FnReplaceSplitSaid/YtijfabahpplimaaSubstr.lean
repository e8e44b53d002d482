/-
  builtinSubstr: the code points from a place on.
-/
import Derived.Test.YtijfabahpplimaaSubOps
namespace Go.Proofs.Ytijfabahpplimaa
open Go.RowKit Ieee

/-- The code points from a place on, so many of them or as many as there are. -/
def sub (l : List Nat) (a z : Nat) : List Nat := if l.length < a then [] else (l.drop a).take (min (a + z) l.length - a)

theorem Reads.take {w : World} {B size : Nat} {A : Option Addr} {n : Nat} {xs : List Value} (h : Reads w B size A n xs) {m : Nat} (hm : m ≤ n) : Reads w B size A m (xs.take (m * size)) := by
  have hle : m * size ≤ n * size := Nat.mul_le_mul_right size hm
  refine ⟨by rw [List.length_take, h.1]; omega, fun hn => ?_⟩
  obtain ⟨ad, rfl, hb, hc⟩ := h.2 (by omega)
  refine ⟨ad, rfl, hb, fun j u hu => hc j u ?_⟩
  rw [List.getElem?_take] at hu
  split at hu
  · exact hu
  · cases hu
theorem getGoString_any (g : Nat) (A : Option Addr) (n c : Nat) (l : List Nat) (w : World) (h : w.cell? ⟨g, 0, none⟩ = some (.slice A n c)) (hn : l.length = n) (hr : Reads w w.heap.size 1 A n (runesOf l).toList) (S : ByteArray) (hS : text l = S) :
    Calls Try.prog 91 #[.pointer (some ⟨g, 0, none⟩)] w fun e w' => e = .returned (.string S) ∧ w = w' := by
  have k1 := conv_runes w _ A l n c hn hr
  rw [hS] at k1
  clear hr hS
  go_enter Try.func91, Try.ntmps91
  go_wp2
  go_ret
  exact ⟨rfl, rfl⟩
theorem run_isString (a : Option Addr) (w : World) : (Instr.typeAssert (.iface 128 (.pointer a)) 57 93 false).run Try.prog w = .ok (.iface 128 (.pointer a)) w := by kernel_rfl
theorem method_getGoString (a : Addr) (w : World) : (method 334 128 (.pointer (some a)) "given.example/pub-rondel/pub/jsonnet.getGoString").run Try.prog w = .ok (91, .pointer (some a)) w := by kernel_rfl

theorem strOf_ok (v : Value) (l : List Nat) (w : World) (hv : FlatS w w.heap.size v (runesOf l)) (S : ByteArray) (hS : text l = S) :
    Calls Try.prog 25 #[v, .nilIface] w fun e w' => e = .returned (.tuple #[.string S, .nilIface]) ∧ w = w' := by
  obtain ⟨g, A, c, rfl, hg, hb, hr⟩ := hv
  have hsz : (runesOf l).size = l.length := by simp [runesOf]
  rw [hsz] at hb hr
  have K := Lib.hid (getGoString_any g A l.length c l w (hb.cell 0) rfl hr S hS)
  have q1 := run_isString
  have q2 := method_getGoString
  clear hg hb hr hsz hS
  go_enter Try.func25, Try.ntmps25
  go_wp2_with (go_at_call 91; refine K.out.mono ?_; rintro e w' ⟨rfl, rfl⟩)
  go_ret2
  exact ⟨rfl, rfl⟩
theorem text_ok (S : ByteArray) (w : World) :
    Calls Try.prog 15 #[.string S, .nilIface] w fun e w' => e = .returned (.tuple #[.string S, .bool true]) ∧ w = w' := by
  go_enter Try.func15, Try.ntmps15
  go_wp2
  go_ret2
  exact ⟨rfl, rfl⟩

def SubPost (s : ByteArray) (w : World) (e : Ending) (w' : World) : Prop := ∃ v, e = .returned (.tuple #[v, .nilIface]) ∧ FlatS w' w'.heap.size v (runes s) ∧ Below w.heap.size w w'

set_option maxRecDepth 100000 in
set_option maxHeartbeats 1600000 in
theorem substr_any (i : Value) (v : Value) (l : List Nat) (g1 g2 a z x y : Nat) (w : World) (hv : FlatS w w.heap.size v (runesOf l)) (hl : l.length ≤ 2147483647) (h1 : w.cell? ⟨g1, 0, none⟩ = some (.float .f64 x)) (h2 : w.cell? ⟨g2, 0, none⟩ = some (.float .f64 y))
    (hx : floatOfInt .f64 (a : Int) = x) (hy : floatOfInt .f64 (z : Int) = y) (ha : a ≤ 65535) (hz : z ≤ 65535) (S : ByteArray) (hS : text (sub l a z) = S) :
    Calls Try.prog 30 #[i, v, .iface 91 (.pointer (some ⟨g1, 0, none⟩)), .iface 91 (.pointer (some ⟨g2, 0, none⟩))] w (SubPost S w) := by
  obtain ⟨g, A, c, rfl, hg, hb, hr⟩ := hv
  have hsz : (runesOf l).size = l.length := by simp [runesOf]
  rw [hsz] at hb hr hg
  obtain ⟨f1, f2, f3⟩ := float_nat a ha
  rw [hx] at f1 f2 f3
  have M := Lib.hid (modOne_any x a f1 f2)
  have hi : floatToIntVal .f64 x .i64 = some (a : Int) := by
    have h4 := toInt_whole f3 (a : Int) (by rw [f2]; rfl)
    unfold floatToIntVal
    have e : FloatKind.f64.decode x = double.read x := rfl
    rw [e, h4]
    have m1 : IntKind.i64.min = -9223372036854775808 := by decide
    have m2 : IntKind.i64.max = 9223372036854775807 := by decide
    rw [m1, m2]
    simp only
    rw [if_pos (by omega)]
  have k1 : ∀ w, (convert 25 3 (.float .f64 x)).run Try.prog w = .ok (.int .i64 a) w := fun w => run_convert_float_int w _ _ _ _ _ _ (by kernel_rfl) Try.underlying3 hi
  have k2 : (FloatKind.f64.format.order x 0 == some .lt) = false := by
    have h : (FloatKind.f64.format.order x 0 == some .lt) = decide (x < 0) := ord_lt_rung f1 (by decide)
    rw [h]; simp
  have k3 : (FloatKind.f64.format.order 0 0 != some .eq) = false := by decide
  have GI := Lib.hid (fun w' (hc : w'.cell? ⟨g2, 0, none⟩ = some (.float .f64 y)) => getInt_any i g2 y z w' hc hy hz)
  have c0 : w.cell? ⟨g, 0, none⟩ = some (.slice A l.length c) := hb.cell 0
  have q1 := method_getRunes
  have gc : l.length ≤ c := hg.2
  have HR := Lib.hid hr
  have HS := Lib.hid hS
  clear hi f1 f2 f3 hx hy hb hr hsz hg hS
  by_cases hb : l.length < a
  · go_enter Try.func30, Try.ntmps30
    go_wp2_with (first
      | (go_at_call 31; refine (getString_any _ _ _).mono ?_; rintro e w' ⟨rfl, rfl⟩)
      | (go_at_call 42; refine (getNumber_any _ _ _).mono ?_; rintro e w' ⟨rfl, rfl⟩)
      | (go_at_call 36; refine (GI.out _ h2).mono ?_; rintro e w' ⟨rfl, rfl⟩)
      | (go_at_call 43; refine (M.out _).mono ?_; rintro e w' ⟨rfl, rfl⟩)
      | (go_at_call 92; refine (getRunes_any _ _ _ _ _ c0).mono ?_; rintro e w' ⟨rfl, rfl⟩))
    have hS0 : ByteArray.empty = S := by
      have h1 := HS.out
      unfold sub at h1
      rw [if_pos hb] at h1
      exact h1
    have HS0 := Lib.hid hS0
    clear hS0
    refine (mkString_any _ _).mono ?_
    rintro e w1 ⟨v1, rfl, hf1, hb1⟩
    have F1 := Lib.hid hf1
    have B1 := Lib.hid hb1
    clear hf1 hb1
    go_wp2_with fail
    go_ret2
    exact ⟨v1, rfl, by rw [← HS0.out]; exact F1.out, B1.out⟩
  · have hn : min (a + z) l.length - a ≤ l.length - a := by omega
    have hcut := ((HR.out.cut (k := a) (cap := c) (by omega) gc).take (m := min (a + z) l.length - a) hn)
    have e0 : ((runesOf l).toList.drop (a * 1)).take ((min (a + z) l.length - a) * 1) = (runesOf (sub l a z)).toList := by
      unfold sub
      rw [if_neg hb]
      simp [runesOf, List.map_take, List.map_drop]
    rw [e0] at hcut
    have hlen : (sub l a z).length = min (a + z) l.length - a := by
      unfold sub
      rw [if_neg hb]
      simp
      omega
    have hcv := conv_runes w _ _ (sub l a z) _ (c - a) hlen hcut
    rw [HS.out, Nat.mul_one] at hcv
    have HCV := Lib.hid hcv
    clear hcut e0 hlen hcv hn HS HR
    by_cases hlong : l.length < a + z
    all_goals
      have hcv := HCV.out
      have hmin : min (a + z) l.length - a = (if l.length < a + z then l.length - a else z) := by split <;> omega
      rw [hmin] at hcv
      first | rw [if_pos hlong] at hcv | rw [if_neg hlong] at hcv
      clear hmin HCV
      go_enter Try.func30, Try.ntmps30
      go_wp2_with (first
        | (go_at_call 31; refine (getString_any _ _ _).mono ?_; rintro e w' ⟨rfl, rfl⟩)
        | (go_at_call 42; refine (getNumber_any _ _ _).mono ?_; rintro e w' ⟨rfl, rfl⟩)
        | (go_at_call 36; refine (GI.out _ h2).mono ?_; rintro e w' ⟨rfl, rfl⟩)
        | (go_at_call 43; refine (M.out _).mono ?_; rintro e w' ⟨rfl, rfl⟩)
        | (go_at_call 92; refine (getRunes_any _ _ _ _ _ c0).mono ?_; rintro e w' ⟨rfl, rfl⟩))
      all_goals
        refine (mkString_any _ _).mono ?_
        rintro e w1 ⟨v1, rfl, hf1, hb1⟩
        have F1 := Lib.hid hf1
        have B1 := Lib.hid hb1
        clear hf1 hb1
        go_wp2_with fail
        go_ret2
        exact ⟨v1, rfl, F1.out, B1.out⟩
end Go.Proofs.Ytijfabahpplimaa
