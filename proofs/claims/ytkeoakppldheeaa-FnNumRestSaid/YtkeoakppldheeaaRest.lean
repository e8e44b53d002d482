/-
  The walk of FnNumRest: it answers true.
-/
import Derived.Test.YtkeoakppldheeaaModLoop
import Derived.Test.YtkeoakppldheeaaTimes
import Derived.Test.YtkeoakppldheeaaFinite
namespace Go.Proofs.Ytkeoakppldheeaa
open Go.RowKit Ieee

theorem neg_lt64 {x : Nat} (h : x < 18446744073709551616) : Op.negFloat .f64 x < 18446744073709551616 := by
  rw [neg_word']
  have : x ^^^ 2 ^ 63 < 2 ^ 64 := Nat.xor_lt_two_pow (by omega) (by omega)
  omega
theorem fin_flags {x : Nat} (h : fin x) : infB x = false ∧ nanB x = false := by
  have := finB_true h; simp [finB] at this; exact ⟨this.2, this.1⟩
theorem absw_pos {y : Nat} (hy : fin y) (yl : y < 18446744073709551616) (hyz : (FloatKind.f64.format.order y 0 == some .eq) = false) : 0 < absw y := by
  rcases Nat.eq_zero_or_pos (absw y) with h | h
  · exfalso
    obtain ⟨-, h1⟩ := word_split hy yl
    have z : fv 0 = 0 := fv_zero false
    have hv : fv y = 0 := by
      rcases h1 with ⟨-, e⟩ | ⟨-, e⟩
      · rw [e, h, z]
      · rw [e, h, z]; rfl
    have e : (double.order y 0 == some .eq) = decide (fv y = fv 0) := ord_eq hy (fin_rung (by omega))
    have hyz' : (double.order y 0 == some .eq) = false := hyz
    rw [e, hv, z] at hyz'
    simp at hyz'
  · exact h
theorem order_inf {r z : Nat} (hr : fin r) (hz : double.read z = .infinity false) : (FloatKind.f64.format.order r z == some .gt || FloatKind.f64.format.order r z == some .eq) = false := by
  obtain ⟨s, m, i, hr⟩ := hr
  show (double.order r z == some .gt || double.order r z == some .eq) = false
  unfold Format.order
  rw [hr, hz]; rfl

theorem mod_any (x y : Nat) (xl : x < 18446744073709551616) (yl : y < 18446744073709551616) (hyz : (FloatKind.f64.format.order y 0 == some .eq) = false) (w : World) :
    Calls Try.prog 70 #[.float .f64 x, .float .f64 y] w fun e w' => (∃ o, o < 18446744073709551616 ∧ e = .returned (.float .f64 o) ∧ (fin x → fin y → Good x y o)) ∧ w = w' := by
  by_cases hx : fin x
  · obtain ⟨n1, n2⟩ := fin_flags hx
    obtain ⟨hxa, hxs⟩ := word_split hx xl
    have hnx := neg_rung hxa
    by_cases hy : fin y
    · obtain ⟨n4, n3⟩ := fin_flags hy
      have hy0 := absw_pos hy yl hyz
      obtain ⟨hya, hys⟩ := word_split hy yl
      have z : fv 0 = 0 := fv_zero false
      have hlt : (FloatKind.f64.format.order x 0 == some .lt) = decide (fv x < 0) := by
        have e : (double.order x 0 == some .lt) = decide (fv x < fv 0) := ord_lt hx (fin_rung (by omega))
        rw [z] at e; exact e
      by_cases hx0 : absw x = 0
      · -- a zero
        have hv : fv x = 0 := by
          rcases hxs with ⟨-, e⟩ | ⟨-, e⟩
          · rw [e, hx0, z]
          · rw [e, hx0, z]; rfl
        have hs : (FloatKind.f64.format.order x 0 == some .lt) = false := by rw [hlt, hv]; simp
        have hyf := fin_rung hya
        have hpos : 0 < fv (absw y) := by rw [← z]; exact fv_mono hy0 hya
        have ht : (FloatKind.f64.format.order x (absw y) == some .gt || FloatKind.f64.format.order x (absw y) == some .eq) = false := by
          have e1 : (double.order x (absw y) == some .gt) = decide (fv (absw y) < fv x) := ord_gt hx hyf
          have e2 : (double.order x (absw y) == some .eq) = decide (fv x = fv (absw y)) := ord_eq hx hyf
          show (double.order x (absw y) == some .gt || double.order x (absw y) == some .eq) = false
          rw [e1, e2, hv]
          simp only [Bool.or_eq_false_iff, decide_eq_false_iff_not]
          exact ⟨Rat.not_lt.2 (Rat.le_of_lt hpos), fun h => by rw [← h] at hpos; exact Rat.lt_irrefl hpos⟩
        refine (mod_less x y n1 n2 n3 xl yl hyz (absw y) rfl false hs x rfl ht _ _ (fun w => frexp_any (absw y) hy0 hya w) w).mono ?_
        rintro e w' ⟨rfl, rfl⟩
        exact ⟨⟨x, xl, rfl, fun _ _ => ⟨hx, by rw [hx0]; exact hy0, Nat.le_refl _, .inl hv⟩⟩, rfl⟩
      · have hxp : 0 < fv (absw x) := by rw [← z]; exact fv_mono (by omega) hxa
        rcases hxs with ⟨ex, vx⟩ | ⟨ex, vx⟩
        · have hs : (FloatKind.f64.format.order x 0 == some .lt) = false := by
            rw [hlt, vx]; exact decide_eq_false (Rat.not_lt.2 (Rat.le_of_lt hxp))
          refine (mod_fin x y hx hy xl yl hy0 hya hyz false hs (absw x) hxa (fun _ => ex.symm) (fun h => by cases h) w).mono ?_
          rintro e w' ⟨⟨ρ, h1, h2, rfl⟩, rfl⟩
          have hρ : ρ < 9218868437227405312 := by omega
          have e0 : (if false = true then Op.negFloat .f64 ρ else ρ) = ρ := rfl
          rw [e0]
          refine ⟨⟨ρ, by omega, rfl, fun _ _ => ⟨fin_rung hρ, by rw [absw_rung hρ]; exact h1, by rw [absw_rung hρ]; exact h2, .inr ?_⟩⟩, rfl⟩
          rw [vx]
          have := fv_rung_nonneg hρ
          constructor
          · intro h; exact absurd h (Rat.not_lt.2 this)
          · intro h; exact absurd h (Rat.not_lt.2 (Rat.le_of_lt hxp))
        · have hs : (FloatKind.f64.format.order x 0 == some .lt) = true := by
            rw [hlt, vx]; exact decide_eq_true (by grind)
          have hnn : Op.negFloat .f64 x = absw x := by
            rw [neg_word']
            have h3 := (xor_low (r := absw x) (by omega)).2
            rw [← ex] at h3; exact h3
          refine (mod_fin x y hx hy xl yl hy0 hya hyz true hs (absw x) hxa (fun h => by cases h) (fun _ => hnn) w).mono ?_
          rintro e w' ⟨⟨ρ, h1, h2, rfl⟩, rfl⟩
          have hρ : ρ < 9218868437227405312 := by omega
          obtain ⟨g1, g2, g3, g4⟩ := neg_rung hρ
          have e0 : (if true = true then Op.negFloat .f64 ρ else ρ) = Op.negFloat .f64 ρ := rfl
          rw [e0, g1]
          refine ⟨⟨_, by omega, rfl, fun _ _ => ⟨g2, by rw [g3]; exact h1, by rw [g3]; exact h2, ?_⟩⟩, rfl⟩
          rw [g4, vx]
          rcases Nat.eq_zero_or_pos ρ with h0 | h0
          · left; rw [h0, z]; rfl
          · right
            have : 0 < fv ρ := by rw [← z]; exact fv_mono h0 hρ
            constructor
            · intro _; grind
            · intro _; grind
    · by_cases hyn : nanB y = true
      · refine (mod_nan x y xl hyz (.inr (.inr ⟨n1, n2, hyn⟩)) w).mono ?_
        rintro e w' ⟨rfl, rfl⟩
        exact ⟨⟨_, by omega, rfl, fun _ h => absurd h hy⟩, rfl⟩
      · have hyn' : nanB y = false := by simpa using hyn
        have hyi : infw y := by
          by_cases h : fin y ∨ infw y
          · rcases h with h | h
            · exact absurd h hy
            · exact h
          · have := nan_yes h
            simp [nanB, this] at hyn'
        have hya : double.read (absw y) = .infinity false := by
          have h1 := inf_yes hyi
          obtain ⟨s, hyi⟩ := hyi
          unfold Format.read absw at *
          rw [dbl_place, dbl_bin, dbl_inf, dbl_sign] at *
          have e : y % 9223372036854775808 / 9223372036854775808 % 2 = 0 := by omega
          have e2 : y % 9223372036854775808 % 9223372036854775808 = y % 9223372036854775808 := by omega
          simp only [e, e2] at *
          split at hyi
          · cases hyi
          · rename_i h3
            rw [if_neg h3]
            split at hyi
            · cases hyi
            · rename_i h4
              rw [if_neg h4]
              split at hyi
              · rename_i h5
                rw [if_pos h5]; rfl
              · cases hyi
        have hal : absw y < 18446744073709551616 := by
          have : absw y < 9223372036854775808 := Nat.mod_lt _ (by omega)
          omega
        have hai : infB (absw y) = true := inf_yes ⟨_, hya⟩
        have ha0 : (FloatKind.f64.format.order (absw y) 0 == some .eq) = false := by
          show (double.order (absw y) 0 == some .eq) = false
          unfold Format.order
          rw [hya]
          rfl
        obtain ⟨s, hs⟩ : ∃ s, (FloatKind.f64.format.order x 0 == some .lt) = s := ⟨_, rfl⟩
        have hrf : fin (if s = true then Op.negFloat .f64 x else x) := by
          cases s
          · exact hx
          · show fin (Op.negFloat .f64 x)
            rcases hxs with ⟨ex, -⟩ | ⟨ex, -⟩
            · have : Op.negFloat .f64 x = Op.negFloat .f64 (absw x) := by rw [← ex]
              rw [this, hnx.1]; exact hnx.2.1
            · have h3 := (xor_low (r := absw x) (by omega)).2
              have : Op.negFloat .f64 x = absw x := by rw [neg_word', ex] ; rw [← ex]; rw [← ex] at h3; exact h3
              rw [this]; exact fin_rung hxa
        refine (mod_less x y n1 n2 hyn' xl yl hyz (absw y) rfl s hs _ rfl (order_inf hrf hya) _ _ (fun w => frexp_inf (absw y) hal hai ha0 w) w).mono ?_
        rintro e w' ⟨rfl, rfl⟩
        refine ⟨⟨_, ?_, rfl, fun _ h => absurd h hy⟩, rfl⟩
        cases s
        · exact xl
        · exact neg_lt64 (neg_lt64 xl)
  · have hcase : infB x = true ∨ infB x = false ∧ nanB x = true := by
      cases h1 : infB x
      · right
        refine ⟨rfl, ?_⟩
        cases h2 : nanB x
        · exact absurd (finB_fin (by simp [finB, h1, h2])) hx
        · rfl
      · exact .inl rfl
    refine (mod_nan x y xl hyz (by rcases hcase with h | h; exact .inl h; exact .inr (.inl h)) w).mono ?_
    rintro e w' ⟨rfl, rfl⟩
    exact ⟨⟨_, by omega, rfl, fun h => absurd h hx⟩, rfl⟩

theorem modDoor_any (x y : Nat) (xl : x < 18446744073709551616) (yl : y < 18446744073709551616) (hyz : (FloatKind.f64.format.order y 0 == some .eq) = false) (w : World) :
    Calls Try.prog 61 #[.float .f64 x, .float .f64 y] w fun e w' => (∃ o, o < 18446744073709551616 ∧ e = .returned (.float .f64 o) ∧ (fin x → fin y → Good x y o)) ∧ w = w' := by
  go_enter Try.func61, Try.ntmps61
  go_wp2_with fail
  refine (mod_any x y xl yl hyz _).mono ?_
  rintro e w' ⟨⟨o, ol, rfl, hg⟩, rfl⟩
  have HG := Lib.hid hg
  clear hg
  go_wp2
  go_ret
  exact ⟨⟨o, ol, rfl, HG.out⟩, rfl⟩

set_option maxRecDepth 100000 in
set_option maxHeartbeats 1600000 in
theorem modulo_builtin (ig n m : Nat) (x y : Nat) (w : World) (h5 : w.cell? ⟨ig, 5, none⟩ = some (.pointer none)) (h7 : w.cell? ⟨ig, 7, none⟩ = some (.slice none 0 0))
    (hn : w.cell? ⟨n, 0, none⟩ = some (.float .f64 x)) (hm : w.cell? ⟨m, 0, none⟩ = some (.float .f64 y)) (xl : x < 18446744073709551616) (yl : y < 18446744073709551616) :
    Calls Try.prog 46 #[.pointer (some ⟨ig, 0, none⟩), .iface 81 (.pointer (some ⟨n, 0, none⟩)), .iface 81 (.pointer (some ⟨m, 0, none⟩))] w fun e w' =>
      ((FloatKind.f64.format.order y 0 == some .eq) = true ∧ (∃ u, e = .returned (.tuple #[.nilIface, .iface 94 u])) ∨
        (∃ o v1 v2, o < 18446744073709551616 ∧ (fin x → fin y → Good x y o) ∧ e = .returned (.tuple #[v1, v2]) ∧ Chk w.heap.size o w' v1 v2)) ∧ Below w.heap.size w w' := by
  have l5 := World.block_lt_of_cell? w _ h5
  have ln := World.block_lt_of_cell? w _ hn
  have lm := World.block_lt_of_cell? w _ hm
  cases hz : (FloatKind.f64.format.order y 0 == some .eq)
  · go_enter Try.func46, Try.ntmps46
    go_wp2_with (go_at_call 53; refine (getNumber_any _ _ _).mono ?_; rintro e w' ⟨rfl, rfl⟩)
    go_region_held3 (fun w' => w'.cell? ⟨n, 0, none⟩ = some (.float .f64 x) ∧ w'.cell? ⟨m, 0, none⟩ = some (.float .f64 y) ∧ w'.cell? ⟨ig, 5, none⟩ = some (.pointer none) ∧ w'.cell? ⟨ig, 7, none⟩ = some (.slice none 0 0))
      (first
        | go_keep
        | exact ⟨(hb4.cell ln).trans hn, (hb4.cell lm).trans hm, (hb4.cell l5).trans h5, (hb4.cell l5).trans h7⟩)
      (first
        | (go_at_call 61; refine (modDoor_any x y xl yl hz _).mono ?_; rintro e w1 ⟨⟨o, ol, rfl, hg⟩, rfl⟩; have HG := Lib.hid hg; clear hg)
        | (go_at_call 54; refine (check_any ig o ol _ (by go_simp) (by go_simp)).mono ?_; rintro e w3 ⟨v1, v2, rfl, hck, hb3⟩; have HK := Lib.hid hck; clear hck; have hb4 := undrew hb3))
    go_wp2
    go_ret2
    exact ⟨.inr ⟨o, v1, v2, ol, HG.out, rfl, HK.out⟩, hb4⟩
  · go_enter Try.func46, Try.ntmps46
    go_wp2_with (first
      | (go_at_call 53; refine (getNumber_any _ _ _).mono ?_; rintro e w' ⟨rfl, rfl⟩)
      | (go_at_call 60; refine (error_any ig _ _ h5 h7).mono ?_; rintro e w1 ⟨⟨u, rfl⟩, hb1⟩))
    go_ret2
    exact ⟨.inl ⟨(by first | exact trivial | exact hz), _, rfl⟩, hb1⟩

/-- What the door answers. -/
def ModRes (x y : Nat) (v : Nat) (b : Bool) : Prop := fin x → fin y → (FloatKind.f64.format.order y 0 == some .eq) = false → b = true ∧ Good x y v

set_option maxRecDepth 100000 in
theorem modulo_part (x y : Nat) (xl : x < 18446744073709551616) (yl : y < 18446744073709551616) (w : World) :
    Calls Try.prog 34 #[.float .f64 x, .float .f64 y] w fun e w' => ((∃ z, ModRes x y z true ∧ z < 18446744073709551616 ∧ e = .returned (.tuple #[.float .f64 z, .nilIface])) ∨ ModRes x y 0 false ∧ ∃ u, e = .returned (.tuple #[.float .f64 0, .iface 94 u])) ∧ Below w.heap.size w w' := by
  go_enter Try.func34, Try.ntmps34
  go_wp2_with (go_at_call 37; refine (num_any _ _).mono ?_; rintro e w' ⟨rfl, rfl⟩)
  refine Calls.mono (modulo_builtin w.heap.size (w.heap.size + 1) (w.heap.size + 2) x y _ ?_ ?_ ?_ ?_ xl yl) ?_
  iterate 4 (· first | (simp [World.cell?_alloc_lt]; done) | go_simp)
  rintro e w1 ⟨h, hb1⟩
  have hb2 : Below w.heap.size w w1 := ((((Below.refl _ _).alloc (Nat.le_refl _) _).alloc (by simp) _).alloc (by simp; omega) _).trans (hb1.mono (by simp; omega))
  have HB := Lib.hid hb2
  clear hb1 hb2
  rcases h with ⟨hz, u, rfl⟩ | ⟨o, v1, v2, ol, hg, rfl, hck⟩
  · have HR : Hid (ModRes x y 0 false) := Lib.hid (fun _ _ h => by rw [hz] at h; cases h)
    clear hz
    go_wp2_with (go_at_call 35; refine (numOf_no _ _ _ _).mono ?_; rintro e w' ⟨rfl, rfl⟩)
    go_ret2
    exact ⟨.inr ⟨HR.out, u, rfl⟩, HB.out⟩
  · rcases hck with ⟨hf, g, rfl, rfl, hg2, hc⟩ | ⟨hf, rfl, u, rfl⟩
    · have HR : Hid (ModRes x y o true) := Lib.hid (fun a b _ => ⟨rfl, hg a b⟩)
      clear hf hg
      go_wp2_with (go_at_call 35; refine (numOf_ok g o _ hc).mono ?_; rintro e w' ⟨rfl, rfl⟩)
      go_ret2
      exact ⟨.inl ⟨o, HR.out, ol, rfl⟩, HB.out⟩
    · have HR : Hid (ModRes x y 0 false) := Lib.hid (fun a b _ => by have := finB_true (hg a b).1; rw [hf] at this; cases this)
      clear hf hg
      go_wp2_with (go_at_call 35; refine (numOf_no _ _ _ _).mono ?_; rintro e w' ⟨rfl, rfl⟩)
      go_ret2
      exact ⟨.inr ⟨HR.out, u, rfl⟩, HB.out⟩

theorem modulo_num (x y : Nat) (xl : x < 18446744073709551616) (yl : y < 18446744073709551616) (w : World) :
    Calls Try.prog 19 #[.float .f64 x, .float .f64 y] w fun e w' => (∃ z b, ModRes x y z b ∧ z < 18446744073709551616 ∧ e = .returned (.tuple #[.float .f64 z, .bool b])) ∧ Below w.heap.size w w' := by
  go_enter Try.func19, Try.ntmps19
  go_wp2_with fail
  refine (modulo_part x y xl yl _).mono ?_
  rintro e w1 ⟨h, hb⟩
  have HB := Lib.hid hb
  clear hb
  rcases h with ⟨z, hr, zl, rfl⟩ | ⟨hr, u, rfl⟩
  · have HR := Lib.hid hr
    clear hr
    go_wp2_with (go_at_call 20; refine (number_ok z _).mono ?_; rintro e w' ⟨rfl, rfl⟩)
    go_ret2
    exact ⟨⟨z, true, HR.out, zl, rfl⟩, HB.out⟩
  · have HR := Lib.hid hr
    clear hr
    go_wp2_with (go_at_call 20; refine (number_no _ _ _ _).mono ?_; rintro e w' ⟨rfl, rfl⟩)
    go_ret2
    exact ⟨⟨0, false, HR.out, by omega, rfl⟩, HB.out⟩

set_option maxRecDepth 100000 in
set_option maxHeartbeats 1600000 in
theorem rest_walk (x y : Nat) (xl : x < 18446744073709551616) (yl : y < 18446744073709551616) (w : World) :
    Calls Try.prog 6 #[.float .f64 x, .float .f64 y] w fun e w' => e = .returned (.bool true) ∧ Below w.heap.size w w' := by
  go_enter Try.func6, Try.ntmps6
  go_wp2_with fail
  refine (modulo_num x y xl yl _).mono ?_
  rintro e w1 ⟨⟨z, b, hr, zl, rfl⟩, hb⟩
  have HB := Lib.hid hb
  clear hb
  by_cases hf : finB x = true ∧ finB y = true
  · have hx := finB_fin hf.1
    have hy := finB_fin hf.2
    have hall : [x, y].all finB = true := by simp [hf.1, hf.2]
    have HALL := Lib.hid hall
    clear hf hall
    cases hz : (FloatKind.f64.format.order y 0 == some .eq)
    · obtain ⟨rfl, g1, g2, g3, g4⟩ := hr hx hy hz
      obtain ⟨a1, -⟩ := word_split g1 zl
      obtain ⟨a2, -⟩ := word_split hx xl
      obtain ⟨a3, -⟩ := word_split hy yl
      have t1 : (FloatKind.f64.format.order (absw z) (absw y) == some .lt) = true := by rw [rung_lt a1 a3]; exact decide_eq_true g2
      have t2 : (FloatKind.f64.format.order (absw z) (absw x) == some .lt || FloatKind.f64.format.order (absw z) (absw x) == some .eq) = true := by
        have e1 : (FloatKind.f64.format.order (absw z) (absw x) == some .lt) = decide (absw z < absw x) := ord_lt_rung a1 a2
        have e2 : (FloatKind.f64.format.order (absw z) (absw x) == some .eq) = decide (absw z = absw x) := ord_eq_rung a1 a2
        rw [e1, e2]; simp; omega
      have z0 : fv 0 = 0 := fv_zero false
      have t3 : (FloatKind.f64.format.order z 0 == some .eq) = true ∨ (FloatKind.f64.format.order z 0 == some .eq) = false ∧ (FloatKind.f64.format.order z 0 == some .lt) = (FloatKind.f64.format.order x 0 == some .lt) := by
        have e1 : (FloatKind.f64.format.order z 0 == some .eq) = decide (fv z = fv 0) := ord_eq g1 (fin_rung (by omega))
        have e2 : (FloatKind.f64.format.order z 0 == some .lt) = decide (fv z < fv 0) := ord_lt g1 (fin_rung (by omega))
        have e3 : (FloatKind.f64.format.order x 0 == some .lt) = decide (fv x < fv 0) := ord_lt hx (fin_rung (by omega))
        rw [e1, e2, e3, z0]
        rcases g4 with g | g
        · exact .inl (decide_eq_true g)
        · by_cases h0 : fv z = 0
          · exact .inl (decide_eq_true h0)
          · exact .inr ⟨decide_eq_false h0, by rw [Bool.eq_iff_iff]; simpa using g⟩
      clear hr g1 g2 g3 g4 a1 a2 a3 z0 hx hy
      rcases t3 with t3 | ⟨t3, t4⟩
      · go_wp2_with (first
          | (go_at_call 10; refine (lawFinite_any _ 2 _ [x, y] (w1.heap.size + 1) _ (Reads.ofBlock2 (heap_alloc_new w1 _) (by simp)) (by omega) (by simp; exact ⟨xl, yl⟩)).mono ?_; rw [HALL.out]; rintro e w' ⟨rfl, rfl⟩)
          | (go_at_call 11; refine (abs_any z zl _).mono ?_; rintro e w' ⟨rfl, rfl⟩)
          | (go_at_call 11; refine (abs_any x xl _).mono ?_; rintro e w' ⟨rfl, rfl⟩)
          | (go_at_call 11; refine (abs_any y yl _).mono ?_; rintro e w' ⟨rfl, rfl⟩))
        go_ret
        exact ⟨rfl, HB.out.alloc HB.out.size _⟩
      · cases t5 : (FloatKind.f64.format.order x 0 == some .lt)
        all_goals
          rw [t5] at t4
          go_wp2_with (first
            | (go_at_call 10; refine (lawFinite_any _ 2 _ [x, y] (w1.heap.size + 1) _ (Reads.ofBlock2 (heap_alloc_new w1 _) (by simp)) (by omega) (by simp; exact ⟨xl, yl⟩)).mono ?_; rw [HALL.out]; rintro e w' ⟨rfl, rfl⟩)
            | (go_at_call 11; refine (abs_any z zl _).mono ?_; rintro e w' ⟨rfl, rfl⟩)
            | (go_at_call 11; refine (abs_any x xl _).mono ?_; rintro e w' ⟨rfl, rfl⟩)
            | (go_at_call 11; refine (abs_any y yl _).mono ?_; rintro e w' ⟨rfl, rfl⟩))
          go_ret
          exact ⟨rfl, HB.out.alloc HB.out.size _⟩
    · clear hr
      go_wp2_with (go_at_call 10; refine (lawFinite_any _ 2 _ [x, y] (w1.heap.size + 1) _ (Reads.ofBlock2 (heap_alloc_new w1 _) (by simp)) (by omega) (by simp; exact ⟨xl, yl⟩)).mono ?_; rw [HALL.out]; rintro e w' ⟨rfl, rfl⟩)
      go_ret
      exact ⟨rfl, HB.out.alloc HB.out.size _⟩
  · have hall : [x, y].all finB = false := by
      cases h1 : finB x
      · simp [h1]
      · cases h2 : finB y
        · simp [h1, h2]
        · exact absurd ⟨h1, h2⟩ hf
    have HALL := Lib.hid hall
    clear hf hall hr
    go_wp2_with (go_at_call 10; refine (lawFinite_any _ 2 _ [x, y] (w1.heap.size + 1) _ (Reads.ofBlock2 (heap_alloc_new w1 _) (by simp)) (by omega) (by simp; exact ⟨xl, yl⟩)).mono ?_; rw [HALL.out]; rintro e w' ⟨rfl, rfl⟩)
    go_ret
    exact ⟨rfl, HB.out.alloc HB.out.size _⟩
end Go.Proofs.Ytkeoakppldheeaa
