/-
  dull, sameFodder, bothOf: what they answer.
-/
import Derived.Test.YthinfliplpjdjaaLawFodder
namespace Go.Proofs.Ythinfliplpjdjaa
open Go.RowKit

/-- A paragraph stands first behind a comment within a line that stands last. -/
def dullP (a b : List CE) : Prop := ∃ x y, a[a.length - 1]? = some x ∧ b[0]? = some y ∧ y.k = 2 ∧ x.k = 1
def SayP (p : Prop) (w : World) (e : Ending) (w' : World) : Prop := (∃ b : Bool, e = .returned (.bool b) ∧ (b = true ↔ p)) ∧ w = w'

theorem dull_none (A1 A2 : Option Addr) (n1 c1 n2 c2 : Nat) (w : World) (h : n1 = 0 ∨ (0 < n1 ∧ n2 = 0)) :
    Calls Try.prog 19 #[.slice A1 n1 c1, .slice A2 n2 c2] w fun e w' => e = .returned (.bool false) ∧ w = w' := by
  rcases h with rfl | ⟨h1, rfl⟩
  · go_enter Try.func19, Try.ntmps19
    go_wp2
    go_ret
    exact ⟨rfl, rfl⟩
  · have i1 : (0 : Int) < (n1 : Int) := by omega
    go_enter Try.func19, Try.ntmps19
    go_wp2
    go_ret
    exact ⟨rfl, rfl⟩

set_option maxRecDepth 100000 in
theorem dull_some (b1 o1 b2 o2 m c1 n2 c2 : Nat) (k1 k2 : Int) (w : World) (h2 : 0 < n2) (hm : m + 1 ≤ maxLen)
    (d1 : w.cell? ⟨b1, o1 + m * 4, none⟩ = some (.int .i64 k1)) (d2 : w.cell? ⟨b2, o2, none⟩ = some (.int .i64 k2)) :
    Calls Try.prog 19 #[.slice (some ⟨b1, o1, none⟩) (m + 1) c1, .slice (some ⟨b2, o2, none⟩) n2 c2] w fun e w' => e = .returned (.bool (k2 == 2 && k1 == 1)) ∧ w = w' := by
  unfold maxLen at hm
  have i1 : (0 : Int) < (m : Int) + 1 := by omega
  have i2 : (0 : Int) < (n2 : Int) := by omega
  by_cases hk : k2 = 2
  · subst hk
    go_enter Try.func19, Try.ntmps19
    go_wp2
    all_goals
      go_ret
      exact ⟨ret_bool (by simp), rfl⟩
  · have hk' : (k2 == 2) = false := by simpa using hk
    clear hk
    go_enter Try.func19, Try.ntmps19
    go_wp2
    all_goals
      go_ret
      exact ⟨ret_bool (by rw [hk']; rfl), rfl⟩

theorem dull_any (A1 A2 : Option Addr) (n1 c1 n2 c2 : Nat) (a b : List CE) (B : Nat) (w : World) (h1 : Els w B A1 n1 a) (h2 : Els w B A2 n2 b) (hn1 : n1 ≤ maxLen) :
    Calls Try.prog 19 #[.slice A1 n1 c1, .slice A2 n2 c2] w (SayP (dullP a b) w) := by
  have hl1 := h1.1
  have hl2 := h2.1
  by_cases hz : n1 = 0 ∨ (0 < n1 ∧ n2 = 0)
  · refine (dull_none A1 A2 n1 c1 n2 c2 w hz).mono ?_
    rintro e w' ⟨rfl, rfl⟩
    refine ⟨⟨false, rfl, ?_⟩, rfl⟩
    have hno : ¬ dullP a b := by
      rintro ⟨x, y, hx, hy, _⟩
      have := (List.getElem?_eq_some_iff.1 hx).1
      have := (List.getElem?_eq_some_iff.1 hy).1
      omega
    simp [hno]
  · obtain ⟨m, rfl⟩ : ∃ m, n1 = m + 1 := ⟨n1 - 1, by omega⟩
    obtain ⟨b1, o1, x, rfl, _, hx, _, d1, _⟩ := h1.at_ (show m < m + 1 by omega)
    obtain ⟨b2, o2, y, rfl, _, hy, _, d2, _⟩ := h2.at_ (show 0 < n2 by omega)
    simp only [Nat.zero_mul, Nat.add_zero] at d2
    refine (dull_some b1 o1 b2 o2 m c1 n2 c2 x.k y.k w (by omega) hn1 d1 d2).mono ?_
    rintro e w' ⟨rfl, rfl⟩
    refine ⟨⟨_, rfl, ?_⟩, rfl⟩
    constructor
    · intro h
      simp only [Bool.and_eq_true, beq_iff_eq] at h
      exact ⟨x, y, by rw [hl1]; exact hx, hy, h.1, h.2⟩
    · rintro ⟨x', y', hx', hy', h⟩
      rw [hl1] at hx'
      have := hx.symm.trans hx'
      cases this
      have := hy.symm.trans hy'
      cases this
      simp [h]

set_option maxRecDepth 100000 in
set_option maxHeartbeats 800000 in
theorem sameFodder_true (A1 A2 : Option Addr) (n c1 c2 : Nat) (a b : List CE) (B : Nat) (w : World) (h1 : Els w B A1 n a) (h2 : Els w B A2 n b) (hB : B ≤ w.heap.size) (hn : n ≤ maxLen) (hsay : a.map CE.say = b.map CE.say)
    (hs : ∀ e ∈ a, e.n ≤ 2147483647) :
    Calls Try.prog 22 #[.slice A1 n c1, .slice A2 n c2] w fun e w' => e = .returned (.bool true) ∧ Below w.heap.size w w' := by
  unfold maxLen at hn
  have H1 := Lib.hid h1
  have H2 := Lib.hid h2
  have HS := Lib.hid hs
  have HY := Lib.hid hsay
  clear h1 h2 hs hsay
  go_enter Try.func22, Try.ntmps22
  go_wp2_with fail
  go_loopw [5] (fun i wr => ∃ k : Nat, k ≤ n ∧ i = .int .i64 k ∧ Below w.heap.size w wr) (fun i _ => n - (intOf i).toNat)
  case atStart => exact ⟨0, Nat.zero_le _, rfl, Below.refl _ _⟩
  case round =>
    obtain ⟨k, hk, rfl, hbel⟩ := hrel
    have HB := Lib.hid hbel
    by_cases hlt : k < n
    · obtain ⟨b1, o1, x, rfl, hb1, hx, hsx, c0, c1, c2, c3⟩ := (H1.out.below (hbel.mono hB)).at_ hlt
      obtain ⟨b2, o2, y, rfl, hb2, hy, hsy, d0, d1, d2, d3⟩ := (H2.out.below (hbel.mono hB)).at_ hlt
      have hws : w.heap.size ≤ wr.heap.size := hbel.size
      have hxy : CE.say x = CE.say y := by
        have := congrArg (fun l => l[k]?) HY.out
        simp only [List.getElem?_map, hx, hy, Option.map_some, Option.some.injEq] at this
        exact this
      obtain ⟨kx, bx, ix, Ax, nx, cx, sx⟩ := x
      obtain ⟨ky, by_, iy, Ay, ny, cy, sy⟩ := y
      simp only [CE.say, Prod.mk.injEq] at hxy
      obtain ⟨rfl, rfl, rfl, rfl⟩ := hxy
      dsimp only at c0 c1 c2 c3 d0 d1 d2 d3 hsx hsy
      obtain rfl : nx = ny := by rw [← hsx.len, ← hsy.len]
      have hnx := HS.out _ (List.mem_of_getElem? hx)
      dsimp only at hnx
      have HX := Lib.hid hsx
      have HZ := Lib.hid hsy
      clear hbel hx hy hsx hsy
      have l0 := fun x : Later wr => Later.cell c0 x
      have l1 := fun x : Later wr => Later.cell c1 x
      have l2 := fun x : Later wr => Later.cell c2 x
      have l3 := fun x : Later wr => Later.cell c3 x
      have r0 := fun x : Later wr => Later.cell d0 x
      have r1 := fun x : Later wr => Later.cell d1 x
      have r2 := fun x : Later wr => Later.cell d2 x
      have r3 := fun x : Later wr => Later.cell d3 x
      have i0 : (0 : Int) ≤ (k : Int) := by omega
      have i1 : (k : Int) < (n : Int) := by omega
      go_wp2_with fail
      refine wp_region_later (by kernel_rfl) (by kernel_rfl) ?_
      repeat (go_big_quiet_step ((go_at_call 12; exact later_call (sameElement_true kx bx ix Ax Ay nx cx cy sx B _ (Strs.below HX.out (Below.mono (Later.ok _) (by omega))) (Strs.below HZ.out (Below.mono (Later.ok _) (by omega))) (Nat.le_trans (by omega) (Later.size _)) hnx))))
      refine wpQuiet_nil ?_
      rintro w' ⟨y, rfl⟩
      go_wp2_with fail
      go_roundw
      case rel => exact ⟨k + 1, by omega, by go_num, HB.out.trans (y.ok.mono hws)⟩
      case measure => simp [intOf]; omega
    · obtain rfl : k = n := by omega
      clear hbel
      go_wp2_with fail
      go_ret
      exact ⟨rfl, HB.out⟩
end Go.Proofs.Ythinfliplpjdjaa
