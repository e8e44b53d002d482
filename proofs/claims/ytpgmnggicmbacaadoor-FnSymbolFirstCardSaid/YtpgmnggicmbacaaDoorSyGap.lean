/-
  The language's lexer: here, gap.
-/
import Derived.Test.YtpgmnggicmbacaaDoorSyGc
import Derived.Test.YtpgmnggicmbacaaDoorSyGb
import Derived.Test.YtpgmnggicmbacaaDoorLater
import Derived.Deep.QuietTactic
import Derived.BigQuiet
import Derived.Deep.RegionLaw
import Derived.Deep.RegionHeld3
import Derived.Deep.DeepCutAuto
namespace Go.Proofs.YtpgmnggicmbacaaDoor
open Go.Shelf Go.RowKit
set_option linter.unusedVariables false
set_option linter.unusedSimpArgs false

/-- Nothing is answered. -/
def NoResS (e : Ending) : Prop := e = .returned (.tuple #[])
def lxC (s : ByteArray) (p : Nat) (out : Value) (bad uns : Bool) : Array Value := #[.string s, .int .i64 p, out, .bool true, .bool bad, .bool uns]
/-- The language's lexer at a place. -/
def Lx (w : World) (b : Nat) (s : ByteArray) (p : Nat) (out : Value) (bad uns : Bool) : Prop := Blk w b 67 (lxC s p out bad uns)
section
variable {w w' : World} {b : Nat} {s : ByteArray} {p : Nat} {out : Value} {bad uns : Bool}
theorem Lx.lt (h : Lx w b s p out bad uns) : b < w.heap.size := Blk.lt h
theorem Lx.below (h : Lx w b s p out bad uns) (hb : Below w.heap.size w w') : Lx w' b s p out bad uns := Blk.below h hb h.lt
theorem Lx.c0 (h : Lx w b s p out bad uns) : w.cell? ⟨b, 0, none⟩ = some (.string s) := Blk.cell h 0
theorem Lx.c1 (h : Lx w b s p out bad uns) : w.cell? ⟨b, 1, none⟩ = some (.int .i64 p) := Blk.cell h 1
theorem Lx.c2 (h : Lx w b s p out bad uns) : w.cell? ⟨b, 2, none⟩ = some out := Blk.cell h 2
theorem Lx.c4 (h : Lx w b s p out bad uns) : w.cell? ⟨b, 4, none⟩ = some (.bool bad) := Blk.cell h 4
theorem Lx.c5 (h : Lx w b s p out bad uns) : w.cell? ⟨b, 5, none⟩ = some (.bool uns) := Blk.cell h 5
theorem Lx.to (h : Lx w b s p out bad uns) (q : Nat) : Lx (w.setCell ⟨b, 1, none⟩ (.int .i64 q)) b s q out bad uns := by unfold Lx; simpa [lxC] using Blk.set_ h 1 (.int .i64 q)
theorem Lx.isBad (h : Lx w b s p out bad uns) (v : Bool) : Lx (w.setCell ⟨b, 4, none⟩ (.bool v)) b s p out v uns := by unfold Lx; simpa [lxC] using Blk.set_ h 4 (.bool v)
theorem Lx.isUns (h : Lx w b s p out bad uns) (v : Bool) : Lx (w.setCell ⟨b, 5, none⟩ (.bool v)) b s p out bad v := by unfold Lx; simpa [lxC] using Blk.set_ h 5 (.bool v)
end
def lxPos (b : Nat) (w : World) : Nat := match w.cell? ⟨b, 1, none⟩ with | some (.int _ n) => n.toNat | _ => 0
theorem Lx.pos {w : World} {b : Nat} {s : ByteArray} {p : Nat} {out : Value} {bad uns : Bool} (h : Lx w b s p out bad uns) : lxPos b w = p := by
  unfold lxPos
  rw [h.c1]
  rfl
def HrPost (v : Bool) (w : World) (e : Ending) (w' : World) : Prop := e = .returned (.bool v) ∧ Below w.heap.size w w'
set_option maxRecDepth 100000 in
theorem hereG (b : Nat) (s t : ByteArray) (p : Nat) (out : Value) (bad uns : Bool) (hs : s.size ≤ 1000000) (ht : t.size ≤ 1000000) (hp : p ≤ 2000000) (w : World) (h : Lx w b s p out bad uns) :
    Calls Tryd.prog 45 #[.pointer (some ⟨b, 0, none⟩), .string t] w (HrPost (stG s t p) w) := by
  have c0 := h.c0
  have c1 := h.c1
  have K := Lib.hid (fun w' : World => (startsG s t p (by omega) (by omega) (by omega) w').mono (R' := HrPost (stG s t p) w') (by rintro e w'' ⟨rfl, rfl⟩; exact ⟨rfl, Below.refl _ _⟩))
  generalize stG s t p = v at *
  clear h
  go_enter Tryd.func45, Tryd.ntmps45
  go_upto_region 1 with fail
  have k0 := fun (y : Later w) => Later.cell c0 y
  have k1 := fun (y : Later w) => Later.cell c1 y
  refine wp_region_later (by kernel_rfl) (by kernel_rfl) ?_
  repeat (go_big_quiet_step (first | (go_at_call 42; exact later_call (K.out _))))
  refine wpQuiet_nil ?_
  rintro w1 ⟨y, rfl⟩
  have HB1 := Lib.hid y.ok
  go_wp2_with fail
  go_ret
  exact ⟨rfl, HB1.out⟩
theorem opB_not {c : Nat} (h : opB c = true) : c ≠ 32 ∧ c ≠ 9 ∧ c ≠ 13 ∧ c ≠ 10 ∧ c ≠ 35 ∧ c ≠ 34 ∧ c ≠ 39 ∧ c ≠ 64 ∧ c < 128 := by
  unfold opB at h
  simp at h
  omega
def StayPost (w : World) (e : Ending) (w' : World) : Prop := NoResS e ∧ Below w.heap.size w w'
set_option maxRecDepth 100000 in
set_option maxHeartbeats 1600000 in
theorem gap_stay (b : Nat) (s : ByteArray) (out : Value) (uns : Bool) (hs : s.size ≤ 1000000) (h0 : Sym0 s) (hc : ¬ Comm s) (w : World) (h : Lx w b s 0 out false uns) :
    Calls Tryd.prog 28 #[.pointer (some ⟨b, 0, none⟩)] w (StayPost w) := by
  obtain ⟨hlt, hop⟩ := h0
  obtain ⟨n1, n2, n3, n4, n5, -⟩ := opB_not hop
  have hd := by_eq hlt
  have q1 : (((s[0]'hlt).toNat : Int) == 32) = false := by rw [hd]; simp; omega
  have q2 : (((s[0]'hlt).toNat : Int) == 9) = false := by rw [hd]; simp; omega
  have q3 : (((s[0]'hlt).toNat : Int) == 13) = false := by rw [hd]; simp; omega
  have q4 : (((s[0]'hlt).toNat : Int) == 10) = false := by rw [hd]; simp; omega
  have q5 : (((s[0]'hlt).toNat : Int) == 35) = false := by rw [hd]; simp; omega
  have e1 : stG s ⟨#[47, 47]⟩ 0 = false := by
    have := stG2 s 0 47 47 (by omega) (by omega)
    rw [show (⟨#[47, 47]⟩ : ByteArray) = ⟨#[UInt8.ofNat 47, UInt8.ofNat 47]⟩ from rfl, this]
    cases hx : two (by_ s) s.size 0 47 47 with
    | false => rfl
    | true => exact absurd (.inl hx) hc
  have e2 : stG s ⟨#[47, 42]⟩ 0 = false := by
    have := stG2 s 0 47 42 (by omega) (by omega)
    rw [show (⟨#[47, 42]⟩ : ByteArray) = ⟨#[UInt8.ofNat 47, UInt8.ofNat 42]⟩ from rfl, this]
    cases hx : two (by_ s) s.size 0 47 42 with
    | false => rfl
    | true => exact absurd (.inr hx) hc
  have E1 := Lib.hid e1
  have E2 := Lib.hid e2
  have HL := Lib.hid h
  have hI : (0 : Int) < (s.size : Int) := by omega
  clear hd n1 n2 n3 n4 n5 hop hc e1 e2 h
  go_enter Tryd.func28, Tryd.ntmps28
  go_wp2_with fail
  go_loopw [2] (fun _ wr => Hid (Below w.heap.size w wr)) (fun _ _ => 0)
  case atStart => exact Lib.hid (Below.refl _ _)
  case round =>
    have c0 := (HL.out.below hrel.out).c0
    have c1 := (HL.out.below hrel.out).c1
    have c4 := (HL.out.below hrel.out).c4
    go_wp2_with fail
    go_quiet ((fail))
    have HQ := Lib.hid (below_drewB hrel.out nq)
    have c0 : (wr.drewN nq).cell? ⟨b, 0, none⟩ = some (.string s) := c0
    have c1 : (wr.drewN nq).cell? ⟨b, 1, none⟩ = some (.int .i64 ((0 : Nat) : Int)) := c1
    clear hrel c4
    generalize wr.drewN nq = w1 at *
    go_wp2_with fail
    go_quiet ((fail))
    have HQ2 := Lib.hid (below_drewB HQ.out nq)
    clear c0 c1 HQ
    generalize w1.drewN nq = w2 at *
    go_wp2_with fail
    refine (hereG b s _ 0 out false uns hs (by show 2 ≤ _; omega) (by omega) _ (HL.out.below HQ2.out)).mono ?_
    rintro e3 w3 ⟨rfl, hb3⟩
    rw [E1.out]
    have HQ3 := Lib.hid (HQ2.out.trans (hb3.mono HQ2.out.size))
    clear hb3
    go_wp2_with fail
    refine (hereG b s _ 0 out false uns hs (by show 2 ≤ _; omega) (by omega) _ (HL.out.below HQ3.out)).mono ?_
    rintro e4 w4 ⟨rfl, hb4⟩
    rw [E2.out]
    have HQ4 := Lib.hid (HQ3.out.trans (hb4.mono HQ3.out.size))
    clear hb4
    go_wp2_with fail
    go_end0
    exact ⟨rfl, HQ4.out⟩
/-- A state of the language's lexer on the way, its place free. -/
def GpI (b : Nat) (s : ByteArray) (out : Value) (uns : Bool) (w wr : World) (p : Nat) (bad : Bool) : Prop := Lx wr b s p out bad uns ∧ w.grownBy wr (some b)
theorem GpI.below {b : Nat} {s : ByteArray} {out : Value} {uns bad : Bool} {w wr w' : World} {p : Nat} (h : GpI b s out uns w wr p bad) (hb : Below wr.heap.size wr w') : GpI b s out uns w w' p bad := ⟨h.1.below hb, grown_trans h.2 (grown_below hb _)⟩
theorem GpI.to {b : Nat} {s : ByteArray} {out : Value} {uns bad : Bool} {w wr : World} {p : Nat} (h : GpI b s out uns w wr p bad) (q : Nat) {v : Int} (hv : v = (q : Int)) : GpI b s out uns w (wr.setCell ⟨b, 1, none⟩ (.int .i64 v)) q bad := by
  subst hv
  exact ⟨h.1.to q, grown_set h.2 _ _⟩
theorem GpI.isBad {b : Nat} {s : ByteArray} {out : Value} {uns bad : Bool} {w wr : World} {p : Nat} (h : GpI b s out uns w wr p bad) (v : Bool) : GpI b s out uns w (wr.setCell ⟨b, 4, none⟩ (.bool v)) p v := ⟨h.1.isBad v, grown_set h.2 _ _⟩
theorem GpI.pos {b : Nat} {s : ByteArray} {out : Value} {uns bad : Bool} {w wr : World} {p : Nat} (h : GpI b s out uns w wr p bad) : lxPos b wr = p := h.1.pos
def MovePost (b : Nat) (s : ByteArray) (out : Value) (uns : Bool) (w : World) (e : Ending) (w' : World) : Prop := NoResS e ∧ ∃ p bad, 0 < p ∧ GpI b s out uns w w' p bad
set_option maxRecDepth 100000 in
set_option maxHeartbeats 6400000 in
theorem gap_move (b : Nat) (s : ByteArray) (out : Value) (uns : Bool) (hs : s.size ≤ 1000000) (hc : Comm s) (w : World) (h : Lx w b s 0 out false uns) :
    Calls Tryd.prog 28 #[.pointer (some ⟨b, 0, none⟩)] w (MovePost b s out uns w) := by
  have hsz : 2 ≤ s.size := by
    rcases hc with hc | hc
    all_goals
      unfold two at hc
      simp only [Bool.and_eq_true, decide_eq_true_eq] at hc
      omega
  have hcm : stG s ⟨#[47, 47]⟩ 0 = false → stG s ⟨#[47, 42]⟩ 0 = false → False := by
    intro a c
    have a2 := stG2 s 0 47 47 (by omega) (by omega)
    have c2 := stG2 s 0 47 42 (by omega) (by omega)
    rw [show (⟨#[UInt8.ofNat 47, UInt8.ofNat 47]⟩ : ByteArray) = ⟨#[47, 47]⟩ from rfl, a] at a2
    rw [show (⟨#[UInt8.ofNat 47, UInt8.ofNat 42]⟩ : ByteArray) = ⟨#[47, 42]⟩ from rfl, c] at c2
    rcases hc with hc | hc
    · rw [hc] at a2; cases a2
    · rw [hc] at c2; cases c2
  have hst2 : ∀ p, stG s ⟨#[47, 42]⟩ p = true → p + 2 ≤ s.size := by
    intro p hp
    unfold stG at hp
    simp only [Bool.and_eq_true, decide_eq_true_eq] at hp
    exact hp.1
  have hst1 : ∀ p, stG s ⟨#[47, 47]⟩ p = true → by_ s p = 47 := by
    intro p hp
    have a2 := stG2 s p 47 47 (by omega) (by omega)
    rw [show (⟨#[UInt8.ofNat 47, UInt8.ofNat 47]⟩ : ByteArray) = ⟨#[47, 47]⟩ from rfl, hp] at a2
    unfold two at a2
    simp at a2
    exact a2.1.2
  have HCM := Lib.hid hcm
  have HS2 := Lib.hid hst2
  have HS1 := Lib.hid hst1
  have H0 := Lib.hid (show GpI b s out uns w w 0 false from ⟨h, grown_below (Below.refl _ _) _⟩)
  clear hcm hst2 hst1 hc h
  go_enter Tryd.func28, Tryd.ntmps28
  go_wp2_with fail
  go_loopw [2] (fun _ wr => ∃ p bad, p ≤ s.size + 2 ∧ Hid (GpI b s out uns w wr p bad) ∧ Hid (p = 0 → bad = false)) (fun _ wr => s.size - lxPos b wr)
  case atStart => exact ⟨0, false, by omega, H0, Lib.hid fun _ => rfl⟩
  case round =>
    clear H0
    obtain ⟨p, bad, hp, HI, HN⟩ := hrel
    have hps := HI.out.pos
    have HPS := Lib.hid hps
    clear hps
    have c0 := HI.out.1.c0
    have c1 := HI.out.1.c1
    have c4 := HI.out.1.c4
    by_cases hlt : p < s.size
    · have hI : (p : Int) < (s.size : Int) := by omega
      have z0 : (0 : Int) ≤ (p : Int) := by omega
      cases bad
      · go_wp2_with fail
        go_quiet ((fail))
        have HI1 := Lib.hid (HI.out.below (below_drewB (Below.refl _ _) nq))
        have c0 : (wr.drewN nq).cell? ⟨b, 0, none⟩ = some (.string s) := c0
        have c1 : (wr.drewN nq).cell? ⟨b, 1, none⟩ = some (.int .i64 (p : Int)) := c1
        clear HI c4
        generalize wr.drewN nq = w1 at HI1 c0 c1 ⊢
        go_wp2_with fail
        go_quiet ((fail))
        have HI2 := Lib.hid (HI1.out.below (below_drewB (Below.refl _ _) nq))
        have c1 : (w1.drewN nq).cell? ⟨b, 1, none⟩ = some (.int .i64 (p : Int)) := c1
        clear HI1 c0
        generalize w1.drewN nq = w2 at HI2 c1 ⊢
        have f1 := Blk.frozen HI2.out.1 1
        have wr1 : IntKind.i64.wrap ((p : Int) + 1) = (p : Int) + 1 := IntWalk.i64_in _ (by omega)
        have hd := by_eq hlt
        by_cases hw : by_ s p = 32 ∨ by_ s p = 9 ∨ by_ s p = 13 ∨ by_ s p = 10
        · have hw' : ((s[p]'hlt).toNat : Int) = 32 ∨ ((s[p]'hlt).toNat : Int) = 9 ∨ ((s[p]'hlt).toNat : Int) = 13 ∨ ((s[p]'hlt).toNat : Int) = 10 := by rw [hd]; omega
          have HM := Lib.hid (HI2.out.to (p + 1) (v := (p : Int) + 1) (by omega))
          clear hw hd
          rcases hw' with hw' | hw' | hw' | hw'
          all_goals
            go_wp2_with fail
            go_roundw
            case rel => exact ⟨p + 1, false, by omega, HM, Lib.hid fun _ => rfl⟩
            case measure => rw [HM.out.pos, HPS.out]; omega
        · have q1 : (((s[p]'hlt).toNat : Int) == 32) = false := by rw [hd]; simp; omega
          have q2 : (((s[p]'hlt).toNat : Int) == 9) = false := by rw [hd]; simp; omega
          have q3 : (((s[p]'hlt).toNat : Int) == 13) = false := by rw [hd]; simp; omega
          have q4 : (((s[p]'hlt).toNat : Int) == 10) = false := by rw [hd]; simp; omega
          have hn10 : by_ s p ≠ 10 := by omega
          have HN10 := Lib.hid hn10
          clear hw hn10 hd
          by_cases h35 : by_ s p = 35
          · have q5 : (((s[p]'hlt).toNat : Int) == 35) = true := by rw [by_eq hlt]; simp; omega
            have HI3 := HI2
            clear h35 HI2
            go_wp2_with fail
            go_loopw [79] (fun _ wx => ∃ q, p ≤ q ∧ q ≤ s.size ∧ Hid (GpI b s out uns w wx q false)) (fun _ wx => s.size - lxPos b wx)
            case atStart => exact ⟨p, Nat.le_refl _, by omega, HI3⟩
            case round =>
              obtain ⟨q, g1, g2, HIq⟩ := hrel
              have hq := HIq.out.pos
              have HQ := Lib.hid hq
              clear hq HI3
              have c0 := HIq.out.1.c0
              have c1 := HIq.out.1.c1
              by_cases hlq : q < s.size
              · have hI : (q : Int) < (s.size : Int) := by omega
                have z0 : (0 : Int) ≤ (q : Int) := by omega
                by_cases h10 : by_ s q = 10
                · have q10 : (((s[q]'hlq).toNat : Int) != 10) = false := by rw [by_eq hlq]; simp; omega
                  have hpq : p < q := by
                    rcases Nat.lt_or_ge p q with g | g
                    · exact g
                    · obtain rfl : p = q := by omega
                      exact absurd h10 HN10.out
                  clear h10
                  go_wp2_with fail
                  go_quiet ((fail))
                  have HI4 := Lib.hid (HIq.out.below (below_drewB (Below.refl _ _) nq))
                  clear HIq c0 c1
                  go_wp2_with fail
                  go_roundw
                  case rel => exact ⟨q, false, by omega, HI4, Lib.hid fun _ => rfl⟩
                  case measure => rw [HI4.out.pos, HPS.out]; omega
                · have q10 : (((s[q]'hlq).toNat : Int) != 10) = true := by rw [by_eq hlq]; simp; omega
                  clear h10
                  go_wp2_with fail
                  go_quiet ((fail))
                  have HI4 := Lib.hid (HIq.out.below (below_drewB (Below.refl _ _) nq))
                  have c1 : (wr.drewN nq).cell? ⟨b, 1, none⟩ = some (.int .i64 (q : Int)) := c1
                  clear HIq c0
                  generalize wr.drewN nq = w5 at HI4 c1 ⊢
                  have f1 := Blk.frozen HI4.out.1 1
                  have wr2 : IntKind.i64.wrap ((q : Int) + 1) = (q : Int) + 1 := IntWalk.i64_in _ (by omega)
                  have HI5 := Lib.hid (HI4.out.to (q + 1) (v := (q : Int) + 1) (by omega))
                  go_wp2_with fail
                  go_roundw
                  case rel => exact ⟨q + 1, by omega, by omega, HI5⟩
                  case measure => rw [HI5.out.pos, HQ.out]; omega
              · have hI : ¬ (q : Int) < (s.size : Int) := by omega
                go_wp2_with fail
                go_quiet ((fail))
                have HI4 := Lib.hid (HIq.out.below (below_drewB (Below.refl _ _) nq))
                clear HIq c0 c1
                go_wp2_with fail
                go_roundw
                case rel => exact ⟨q, false, by omega, HI4, Lib.hid fun _ => rfl⟩
                case measure => rw [HI4.out.pos, HPS.out]; omega
          · have q5 : (((s[p]'hlt).toNat : Int) == 35) = false := by rw [by_eq hlt]; simp; omega
            clear h35
            go_wp2_with fail
            refine (hereG b s _ p out false uns hs (by show 2 ≤ _; omega) (by omega) _ HI2.out.1).mono ?_
            rintro e3 w3 ⟨rfl, hb3⟩
            have HI3 := Lib.hid (HI2.out.below hb3)
            clear hb3 HI2 c1 f1
            rcases hx : stG s ⟨#[47, 47]⟩ p with _ | _
            · have HX := Lib.hid hx
              clear hx
              go_wp2_with fail
              refine (hereG b s _ p out false uns hs (by show 2 ≤ _; omega) (by omega) _ HI3.out.1).mono ?_
              rintro e4 w4 ⟨rfl, hb4⟩
              have HI4 := Lib.hid (HI3.out.below hb4)
              clear hb4 HI3
              rcases hy : stG s ⟨#[47, 42]⟩ p with _ | _
              · have hp0 : 0 < p := by
                  rcases Nat.eq_zero_or_pos p with g | g
                  · subst g
                    exact (HCM.out HX.out hy).elim
                  · exact g
                clear hy
                go_wp2_with fail
                go_end0
                exact ⟨rfl, p, false, hp0, HI4.out⟩
              · have h2 := HS2.out p hy
                clear hy
                have c1 := HI4.out.1.c1
                have f1 := Blk.frozen HI4.out.1 1
                have wr2 : IntKind.i64.wrap ((p : Int) + 2) = (p : Int) + 2 := IntWalk.i64_in _ (by omega)
                have HI5 := Lib.hid (HI4.out.to (p + 2) (v := (p : Int) + 2) (by omega))
                go_wp2_with fail
                go_loopw [111] (fun _ wx => ∃ q, p + 2 ≤ q ∧ q ≤ s.size ∧ Hid (GpI b s out uns w wx q false)) (fun _ wx => s.size - lxPos b wx)
                case atStart => exact ⟨p + 2, Nat.le_refl _, by omega, HI5⟩
                case round =>
                  obtain ⟨q, g1, g2, HIq⟩ := hrel
                  have hq := HIq.out.pos
                  have HQ := Lib.hid hq
                  clear hq HI5 HI4 c1 f1
                  have c0 := HIq.out.1.c0
                  have c1 := HIq.out.1.c1
                  by_cases hlq : q < s.size
                  · have hI : (q : Int) < (s.size : Int) := by omega
                    have K := Lib.hid (fun (x : Later wr) => hereG b s ⟨#[42, 47]⟩ q out false uns hs (by show 2 ≤ _; omega) (by omega) x.val (HIq.out.1.below x.ok))
                    rcases hz : stG s ⟨#[42, 47]⟩ q with _ | _
                    · rw [hz] at K
                      clear hz
                      go_upto_region 9 with fail
                      have k0 := fun (y : Later wr) => Later.cell c0 y
                      have k1 := fun (y : Later wr) => Later.cell c1 y
                      refine wp_region_later (by kernel_rfl) (by kernel_rfl) ?_
                      repeat (go_big_quiet_step (first | (go_at_call 45; exact later_call (K.out _))))
                      refine wpQuiet_nil ?_
                      rintro w6 ⟨y, rfl⟩
                      have HI6 := Lib.hid (HIq.out.below y.ok)
                      have c1 := HI6.out.1.c1
                      clear HIq c0 K k0 k1
                      generalize y.val = w6 at HI6 c1 ⊢
                      have f1 := Blk.frozen HI6.out.1 1
                      have wr2 : IntKind.i64.wrap ((q : Int) + 1) = (q : Int) + 1 := IntWalk.i64_in _ (by omega)
                      have HI7 := Lib.hid (HI6.out.to (q + 1) (v := (q : Int) + 1) (by omega))
                      go_wp2_with fail
                      go_roundw
                      case rel => exact ⟨q + 1, by omega, by omega, HI7⟩
                      case measure => rw [HI7.out.pos, HQ.out]; omega
                    · rw [hz] at K
                      clear hz
                      go_upto_region 9 with fail
                      have k0 := fun (y : Later wr) => Later.cell c0 y
                      have k1 := fun (y : Later wr) => Later.cell c1 y
                      refine wp_region_later (by kernel_rfl) (by kernel_rfl) ?_
                      repeat (go_big_quiet_step (first | (go_at_call 45; exact later_call (K.out _))))
                      refine wpQuiet_nil ?_
                      rintro w6 ⟨y, rfl⟩
                      have HI6 := Lib.hid (HIq.out.below y.ok)
                      clear HIq c0 c1 K k0 k1
                      generalize y.val = w6 at HI6 ⊢
                      have HI7 := HI6
                      have c0 := HI7.out.1.c0
                      have c1 := HI7.out.1.c1
                      have f4 := Blk.frozen HI7.out.1 4
                      clear HI6
                      go_wp2_with fail
                      have c4 := HI7.out.1.c4
                      go_region_law (fail)
                      all_goals
                        try rw [show ∀ i, @decide (s.size ≤ q) i = false from fun i => @decide_eq_false _ i (by omega)]
                        have HI8 := Lib.hid ((HI7.out.isBad false).below (Below.refl _ _).drew)
                        clear HI7 c0 c1 c4 f4
                        generalize (w6.setCell ⟨b, 4, none⟩ (.bool false)).drew = w7 at HI8 ⊢
                        have c1 := HI8.out.1.c1
                        have f1 := Blk.frozen HI8.out.1 1
                        have wr3 : IntKind.i64.wrap ((q : Int) + 2) = (q : Int) + 2 := IntWalk.i64_in _ (by omega)
                        have HI9 := Lib.hid (HI8.out.to (q + 2) (v := (q : Int) + 2) (by omega))
                        go_wp2_with fail
                        go_roundw
                        case rel => exact ⟨q + 2, false, by omega, HI9, Lib.hid fun h => by omega⟩
                        case measure => rw [HI9.out.pos, HPS.out]; omega
                  · have hI : ¬ (q : Int) < (s.size : Int) := by omega
                    go_wp2_with fail
                    go_quiet ((fail))
                    have HI6 := Lib.hid (HIq.out.below (below_drewB (Below.refl _ _) nq))
                    clear HIq c0 c1
                    generalize wr.drewN nq = w6 at HI6 ⊢
                    have HI7 := HI6
                    have c0 := HI7.out.1.c0
                    have c1 := HI7.out.1.c1
                    have f4 := Blk.frozen HI7.out.1 4
                    clear HI6
                    go_wp2_with fail
                    have c4 := HI7.out.1.c4
                    go_region_law (fail)
                    all_goals
                      try rw [show ∀ i, @decide (s.size ≤ q) i = true from fun i => @decide_eq_true _ i (by omega)]
                      have HI8 := Lib.hid ((HI7.out.isBad true).below (Below.refl _ _).drew)
                      clear HI7 c0 c1 c4 f4
                      generalize (w6.setCell ⟨b, 4, none⟩ (.bool true)).drew = w7 at HI8 ⊢
                      have c1 := HI8.out.1.c1
                      have f1 := Blk.frozen HI8.out.1 1
                      have wr3 : IntKind.i64.wrap ((q : Int) + 2) = (q : Int) + 2 := IntWalk.i64_in _ (by omega)
                      have HI9 := Lib.hid (HI8.out.to (q + 2) (v := (q : Int) + 2) (by omega))
                      go_wp2_with fail
                      go_roundw
                      case rel => exact ⟨q + 2, true, by omega, HI9, Lib.hid fun h => by omega⟩
                      case measure => rw [HI9.out.pos, HPS.out]; omega
            · have HX := Lib.hid hx
              clear hx
              go_wp2_with fail
              go_loopw [79] (fun _ wx => ∃ q, p ≤ q ∧ q ≤ s.size ∧ Hid (GpI b s out uns w wx q false)) (fun _ wx => s.size - lxPos b wx)
              case atStart => exact ⟨p, Nat.le_refl _, by omega, HI3⟩
              case round =>
                obtain ⟨q, g1, g2, HIq⟩ := hrel
                have hq := HIq.out.pos
                have HQ := Lib.hid hq
                clear hq HI3
                have c0 := HIq.out.1.c0
                have c1 := HIq.out.1.c1
                by_cases hlq : q < s.size
                · have hI : (q : Int) < (s.size : Int) := by omega
                  have z0 : (0 : Int) ≤ (q : Int) := by omega
                  by_cases h10 : by_ s q = 10
                  · have q10 : (((s[q]'hlq).toNat : Int) != 10) = false := by rw [by_eq hlq]; simp; omega
                    have hpq : p < q := by
                      rcases Nat.lt_or_ge p q with g | g
                      · exact g
                      · obtain rfl : p = q := by omega
                        exact absurd h10 HN10.out
                    clear h10
                    go_wp2_with fail
                    go_quiet ((fail))
                    have HI4 := Lib.hid (HIq.out.below (below_drewB (Below.refl _ _) nq))
                    clear HIq c0 c1
                    go_wp2_with fail
                    go_roundw
                    case rel => exact ⟨q, false, by omega, HI4, Lib.hid fun _ => rfl⟩
                    case measure => rw [HI4.out.pos, HPS.out]; omega
                  · have q10 : (((s[q]'hlq).toNat : Int) != 10) = true := by rw [by_eq hlq]; simp; omega
                    clear h10
                    go_wp2_with fail
                    go_quiet ((fail))
                    have HI4 := Lib.hid (HIq.out.below (below_drewB (Below.refl _ _) nq))
                    have c1 : (wr.drewN nq).cell? ⟨b, 1, none⟩ = some (.int .i64 (q : Int)) := c1
                    clear HIq c0
                    generalize wr.drewN nq = w5 at HI4 c1 ⊢
                    have f1 := Blk.frozen HI4.out.1 1
                    have wr2 : IntKind.i64.wrap ((q : Int) + 1) = (q : Int) + 1 := IntWalk.i64_in _ (by omega)
                    have HI5 := Lib.hid (HI4.out.to (q + 1) (v := (q : Int) + 1) (by omega))
                    go_wp2_with fail
                    go_roundw
                    case rel => exact ⟨q + 1, by omega, by omega, HI5⟩
                    case measure => rw [HI5.out.pos, HQ.out]; omega
                · have hI : ¬ (q : Int) < (s.size : Int) := by omega
                  go_wp2_with fail
                  go_quiet ((fail))
                  have HI4 := Lib.hid (HIq.out.below (below_drewB (Below.refl _ _) nq))
                  clear HIq c0 c1
                  go_wp2_with fail
                  go_roundw
                  case rel => exact ⟨q, false, by omega, HI4, Lib.hid fun _ => rfl⟩
                  case measure => rw [HI4.out.pos, HPS.out]; omega
      · have hp0 : 0 < p := by
          rcases Nat.eq_zero_or_pos p with g | g
          · exact absurd (HN.out g) (by decide)
          · exact g
        go_wp2_with fail
        go_quiet ((fail))
        have HI1 := Lib.hid (HI.out.below (below_drewB (Below.refl _ _) nq))
        clear HI c0 c1 c4
        go_wp2_with fail
        go_end0
        exact ⟨rfl, p, true, hp0, HI1.out⟩
    · have hI : ¬ (p : Int) < (s.size : Int) := by omega
      go_wp2_with fail
      go_quiet ((fail))
      have HI1 := Lib.hid (HI.out.below (below_drewB (Below.refl _ _) nq))
      clear HI c0 c1 c4
      go_wp2_with fail
      go_end0
      exact ⟨rfl, p, bad, by omega, HI1.out⟩
end Go.Proofs.YtpgmnggicmbacaaDoor
