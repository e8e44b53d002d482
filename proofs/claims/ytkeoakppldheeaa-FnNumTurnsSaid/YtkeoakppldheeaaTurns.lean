/-
  The walk of FnNumTurns: it answers true.
-/
import Derived.Test.YtkeoakppldheeaaTimes
import Derived.Test.YtkeoakppldheeaaWhole
import Derived.Test.YtkeoakppldheeaaBitDoorB
import Derived.Test.YtkeoakppldheeaaFinite
namespace Go.Proofs.Ytkeoakppldheeaa
open Go.RowKit Ieee

theorem neg_word (x : Nat) : Op.negFloat .f64 x = x ^^^ 2 ^ 63 := rfl
theorem neg_fv {x : Nat} (h : fin x) : fin (Op.negFloat .f64 x) ∧ fv (Op.negFloat .f64 x) = -fv x := by
  obtain ⟨s, m, i, hr⟩ := h
  have key : double.read (Op.negFloat .f64 x) = .number (!s) m i := by
    rw [neg_word]
    have e1 : (x ^^^ 2 ^ 63) % 2 ^ 63 = x % 2 ^ 63 := by
      rw [Nat.xor_mod_two_pow]; simp
    have e2 : (x ^^^ 2 ^ 63) / 2 ^ 63 % 2 = (x / 2 ^ 63 + 1) % 2 := by
      rw [Nat.xor_div_two_pow]
      have : (2 : Nat) ^ 63 / 2 ^ 63 = 1 := Nat.div_self (by omega)
      rw [this]
      have h3 := Nat.xor_mod_two_pow (a := x / 2 ^ 63) (b := 1) (n := 1)
      simp only [Nat.pow_one] at h3
      rw [h3]
      have h4 : x / 2 ^ 63 % 2 = 0 ∨ x / 2 ^ 63 % 2 = 1 := by omega
      rcases h4 with h4 | h4
      · rw [h4]
        have : (x / 2 ^ 63 + 1) % 2 = 1 := by omega
        rw [this]; rfl
      · rw [h4]
        have : (x / 2 ^ 63 + 1) % 2 = 0 := by omega
        rw [this]; rfl
    have e63 : (2 : Nat) ^ 63 = 9223372036854775808 := rfl
    rw [e63] at e1 e2 ⊢
    unfold Format.read at hr ⊢
    rw [dbl_place, dbl_bin, dbl_inf, dbl_sign] at hr ⊢
    simp only [e1, e2]
    have hs : ((x / 9223372036854775808 + 1) % 2 == 1) = !(x / 9223372036854775808 % 2 == 1) := by
      have h4 : x / 9223372036854775808 % 2 = 0 ∨ x / 9223372036854775808 % 2 = 1 := by omega
      rcases h4 with h4 | h4
      · have : (x / 9223372036854775808 + 1) % 2 = 1 := by omega
        rw [this, h4]; rfl
      · have : (x / 9223372036854775808 + 1) % 2 = 0 := by omega
        rw [this, h4]; rfl
    rw [hs]
    simp only at hr
    split at hr
    · rename_i c1
      rw [if_pos c1]
      injection hr with q1 q2 q3
      rw [q1, q2, q3]
    · rename_i c1
      rw [if_neg c1]
      split at hr
      · rename_i c2
        rw [if_pos c2]
        injection hr with q1 q2 q3
        rw [q1, q2, q3]
      · split at hr <;> cases hr
  refine ⟨⟨_, _, _, key⟩, ?_⟩
  rw [fv_of key, fv_of hr]
  unfold rv
  cases s <;> simp

theorem neq_no {x y : Nat} (hx : fin x) (hy : fin y) (h : fv x = fv y) : (FloatKind.f64.format.order x y != some .eq) = false := by
  show (!(double.order x y == some .eq)) = false
  rw [ord_eq hx hy, decide_eq_true h]; rfl
theorem eq_yes {x : Nat} (hx : fin x) : (FloatKind.f64.format.order x x == some .eq) = true := nan_no (.inl hx)
theorem zero_neq : (FloatKind.f64.format.order 0 (Op.negFloat .f64 0) != some .eq) = false := by
  have h0 : fin 0 := fin_rung (by omega)
  have z : fv 0 = 0 := fv_zero false
  refine neq_no h0 (neg_fv h0).1 ?_
  rw [(neg_fv h0).2, z]; rfl

/-- The difference, and the one turned round. -/
theorem sub_both {x y : Nat} (hx : fin x) (hy : fin y) : ∃ c d, double.sub x y = some c ∧ double.sub y x = some d ∧
    (finB c = true ∧ finB d = true ∧ (FloatKind.f64.format.order c (Op.negFloat .f64 d) != some .eq) = false ∨ finB c = false ∧ finB d = false) := by
  obtain ⟨c, d, h1, h2, h⟩ := sub_turn hx hy
  refine ⟨c, d, h1, h2, ?_⟩
  rcases h with ⟨a, b, e⟩ | ⟨a, b⟩
  · exact .inl ⟨finB_true a, finB_true b, neq_no a (neg_fv b).1 (by rw [(neg_fv b).2, e])⟩
  · exact .inr ⟨finB_inf a, finB_inf b⟩

def okw (z : Nat) : Nat := if finB z = true then z else 0
theorem numRes_eq (z : Nat) : numRes z = .tuple #[.float .f64 (okw z), .bool (finB z)] := by
  unfold numRes okw
  cases h : finB z <;> simp
theorem okw_fin (z : Nat) : fin (okw z) := by
  unfold okw
  split
  · rename_i h; exact finB_fin h
  · exact fin_rung (by omega)

set_option maxRecDepth 100000 in
set_option maxHeartbeats 4000000 in
theorem turns_core (x y p p' c' d' : Nat) (bp bc : Bool) (hx : fin x) (hy : fin y) (xl : x < 18446744073709551616) (yl : y < 18446744073709551616) (w : World)
    (hp : double.mul x y = some p) (hpb : finB p = bp) (hpp : (FloatKind.f64.format.order p' p' != some .eq) = false) (hcd : (FloatKind.f64.format.order c' (Op.negFloat .f64 d') != some .eq) = false)
    (t1 : ∀ w, Calls Try.prog 12 #[.float .f64 x, .float .f64 y] w fun e w' => e = .returned (.tuple #[.float .f64 p', .bool bp]) ∧ Below w.heap.size w w')
    (t2 : ∀ w, Calls Try.prog 12 #[.float .f64 y, .float .f64 x] w fun e w' => e = .returned (.tuple #[.float .f64 p', .bool bp]) ∧ Below w.heap.size w w')
    (t3 : ∀ w, Calls Try.prog 13 #[.float .f64 x, .float .f64 y] w fun e w' => e = .returned (.tuple #[.float .f64 c', .bool bc]) ∧ Below w.heap.size w w')
    (t4 : ∀ w, Calls Try.prog 13 #[.float .f64 y, .float .f64 x] w fun e w' => e = .returned (.tuple #[.float .f64 d', .bool bc]) ∧ Below w.heap.size w w') :
    Calls Try.prog 5 #[.float .f64 x, .float .f64 y] w fun e w' => e = .returned (.bool true) ∧ Below w.heap.size w w' := by
  have T1 := Lib.hid t1
  have T2 := Lib.hid t2
  have T3 := Lib.hid t3
  have T4 := Lib.hid t4
  have hpl : p < 18446744073709551616 := double.mul_lt hp
  have k1 : ∀ w, (binOp .mul 23 (.float .f64 x) (.float .f64 y)).run Try.prog w = .ok (.float .f64 p) w := fun w => run_float_arith w .mul 23 .f64 x y p hp
  have kn : ∀ w, (Op.unary .neg (.float .f64 d')).run Try.prog w = .ok (.float .f64 (Op.negFloat .f64 d')) w := fun _ => rfl
  have HX := Lib.hid hx
  have HY := Lib.hid hy
  have hfx : ([x, y].all finB) = true := by simp [finB_true hx, finB_true hy]
  have HF := Lib.hid hfx
  clear t1 t2 t3 t4 hp hx hy hfx
  go_enter Try.func5, Try.ntmps5
  go_wp2_with fail
  refine (lawFinite_any _ 2 _ [x, y] (w.heap.size + 1) _ (Reads.ofBlock2 (heap_alloc_new w _) (by simp)) (by omega) (by simp; exact ⟨xl, yl⟩)).mono ?_
  rw [HF.out]
  rintro e w1 ⟨rfl, rfl⟩
  have hb0 : Below w.heap.size w (w.alloc (.cells #[.float .f64 x, .float .f64 y] 23)) := (Below.refl _ _).alloc (Nat.le_refl _) _
  generalize w.alloc (.cells #[.float .f64 x, .float .f64 y] 23) = w1 at *
  have HB0 := Lib.hid hb0
  clear hb0
  go_wp2_with fail
  refine (T1.out _).mono ?_
  rintro e w2 ⟨rfl, hb⟩
  have HB1 := Lib.hid (HB0.out.trans (hb.mono HB0.out.size))
  clear hb
  go_wp2_with fail
  refine (T2.out _).mono ?_
  rintro e w3 ⟨rfl, hb⟩
  have HB2 := Lib.hid (HB1.out.trans (hb.mono HB1.out.size))
  clear hb
  go_wp2_with fail
  refine (T3.out _).mono ?_
  rintro e w4 ⟨rfl, hb⟩
  have HB3 := Lib.hid (HB2.out.trans (hb.mono HB2.out.size))
  clear hb
  go_wp2_with fail
  refine (T4.out _).mono ?_
  rintro e w5 ⟨rfl, hb⟩
  have HB4 := Lib.hid (HB3.out.trans (hb.mono HB3.out.size))
  clear hb
  go_wp2_with fail
  refine (finite_any p hpl _).mono ?_
  rw [hpb]
  rintro e w6 ⟨rfl, rfl⟩
  go_wp2_with fail
  refine (whole_any x HX.out _).mono ?_
  rintro e w7 ⟨⟨a1, b1, rfl, hw1⟩, rfl⟩
  have HW1 := Lib.hid hw1
  clear hw1
  go_wp2_with fail
  refine (whole_any y HY.out _).mono ?_
  rintro e w8 ⟨⟨a2, b2, rfl, hw2⟩, rfl⟩
  have HW2 := Lib.hid hw2
  clear hw2
  by_cases hb : b1 = true ∧ b2 = true
  · obtain ⟨rfl, rfl⟩ := hb
    obtain ⟨a, sa⟩ := HW1.out rfl
    obtain ⟨b, sb⟩ := HW2.out rfl
    have SA := Lib.hid sa
    have SB := Lib.hid sb
    clear sa sb HW1 HW2
    have ra := bits_range .and a b
    have ro := bits_range .or a b
    have rx := bits_range .xor a b
    have fa := eq_yes (fin_int _ ra.1 ra.2)
    have fo := eq_yes (fin_int _ ro.1 ro.2)
    have fx := eq_yes (fin_int _ rx.1 rx.2)
    have CA := Lib.hid (fun w => band_any a b w)
    have CA' := Lib.hid (fun w => band_any b a w)
    have CO := Lib.hid (fun w => bor_any a b w)
    have CO' := Lib.hid (fun w => bor_any b a w)
    have CX := Lib.hid (fun w => bxor_any a b w)
    have CX' := Lib.hid (fun w => bxor_any b a w)
    rw [band_comm b a] at CA'
    rw [bor_comm b a] at CO'
    rw [bxor_comm b a] at CX'
    generalize bits .and .i64 a b = va at *
    generalize bits .or .i64 a b = vo at *
    generalize bits .xor .i64 a b = vx at *
    go_wp2_with fail
    refine (band_num _ _ a b va _ SA.out SB.out (fun h => absurd h (by decide)) ra.1 ra.2 CA.out).mono ?_
    rintro e w9 ⟨rfl, hb⟩
    have HB5 := Lib.hid (HB4.out.trans (hb.mono HB4.out.size))
    clear hb
    go_wp2_with fail
    refine (band_num _ _ b a va _ SB.out SA.out (fun h => absurd h (by decide)) ra.1 ra.2 CA'.out).mono ?_
    rintro e w10 ⟨rfl, hb⟩
    have HB6 := Lib.hid (HB5.out.trans (hb.mono HB5.out.size))
    clear hb
    go_wp2_with fail
    refine (bor_num _ _ a b vo _ SA.out SB.out (fun h => absurd h (by decide)) ro.1 ro.2 CO.out).mono ?_
    rintro e w11 ⟨rfl, hb⟩
    have HB7 := Lib.hid (HB6.out.trans (hb.mono HB6.out.size))
    clear hb
    go_wp2_with fail
    refine (bor_num _ _ b a vo _ SB.out SA.out (fun h => absurd h (by decide)) ro.1 ro.2 CO'.out).mono ?_
    rintro e w12 ⟨rfl, hb⟩
    have HB8 := Lib.hid (HB7.out.trans (hb.mono HB7.out.size))
    clear hb
    go_wp2_with fail
    refine (bxor_num _ _ a b vx _ SA.out SB.out (fun h => absurd h (by decide)) rx.1 rx.2 CX.out).mono ?_
    rintro e w13 ⟨rfl, hb⟩
    have HB9 := Lib.hid (HB8.out.trans (hb.mono HB8.out.size))
    clear hb
    go_wp2_with fail
    refine (bxor_num _ _ b a vx _ SB.out SA.out (fun h => absurd h (by decide)) rx.1 rx.2 CX'.out).mono ?_
    rintro e w14 ⟨rfl, hb⟩
    have HB10 := Lib.hid (HB9.out.trans (hb.mono HB9.out.size))
    clear hb
    go_wp2_with fail
    go_ret
    exact ⟨rfl, HB10.out⟩
  · have hb' : b1 = false ∨ b1 = true ∧ b2 = false := by
      cases b1 <;> cases b2 <;> simp at hb ⊢
    clear hb HW1 HW2
    rcases hb' with rfl | ⟨rfl, rfl⟩
    · go_wp2_with fail
      go_ret
      exact ⟨rfl, HB4.out⟩
    · go_wp2_with fail
      go_ret
      exact ⟨rfl, HB4.out⟩

set_option maxRecDepth 100000 in
theorem turns_walk (x y : Nat) (xl : x < 18446744073709551616) (yl : y < 18446744073709551616) (w : World) :
    Calls Try.prog 5 #[.float .f64 x, .float .f64 y] w fun e w' => e = .returned (.bool true) ∧ Below w.heap.size w w' := by
  by_cases h : finB x = true ∧ finB y = true
  · have hx := finB_fin h.1
    have hy := finB_fin h.2
    obtain ⟨p, p1, p2', -⟩ := mul_turn hx hy
    obtain ⟨c, d, c1, c2, hcd⟩ := sub_both hx hy
    have hbc : finB d = finB c := by
      rcases hcd with ⟨a, b, -⟩ | ⟨a, b⟩ <;> rw [a, b]
    have hneq : (FloatKind.f64.format.order (okw c) (Op.negFloat .f64 (okw d)) != some .eq) = false := by
      rcases hcd with ⟨a, b, e⟩ | ⟨a, b⟩
      · unfold okw; rw [if_pos a, if_pos b]; exact e
      · unfold okw; rw [if_neg (by rw [a]; decide), if_neg (by rw [b]; decide)]; exact zero_neq
    have hpp : (FloatKind.f64.format.order (okw p) (okw p) != some .eq) = false := neq_no (okw_fin p) (okw_fin p) rfl
    refine turns_core x y p (okw p) (okw c) (okw d) (finB p) (finB c) hx hy xl yl w p1 rfl hpp hneq ?_ ?_ ?_ ?_
    · intro w; have := mul_num x y p w p1; rwa [numRes_eq] at this
    · intro w; have := mul_num y x p w p2'; rwa [numRes_eq] at this
    · intro w; have := sub_num x y c w c1; rwa [numRes_eq] at this
    · intro w; have := sub_num y x d w c2; rwa [numRes_eq, hbc] at this
  · have hf : [x, y].all finB = false := by
      cases h1 : finB x
      · simp [h1]
      · cases h2 : finB y
        · simp [h1, h2]
        · exact absurd ⟨h1, h2⟩ h
    have HF := Lib.hid hf
    clear hf h
    go_enter Try.func5, Try.ntmps5
    go_wp2_with fail
    refine (lawFinite_any _ 2 _ [x, y] (w.heap.size + 1) _ (Reads.ofBlock2 (heap_alloc_new w _) (by simp)) (by omega) (by simp; exact ⟨xl, yl⟩)).mono ?_
    rw [HF.out]
    rintro e w1 ⟨rfl, rfl⟩
    go_wp2_with fail
    go_ret
    exact ⟨rfl, (Below.refl _ _).alloc (Nat.le_refl _) _⟩
end Go.Proofs.Ytkeoakppldheeaa
