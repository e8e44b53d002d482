/-
  bare: what the fields of a node hold, kind by kind. (Printed by wip/gen_bare2.py.)
-/
import Derived.Test.YtdhhdnopilfifaaPrBare
import Derived.Test.YtdhhdnopilfifaaPrIdent
import Derived.Deep.DeepCutAuto
import Derived.Deep.CutBlock
import Derived.Deep.RegionHeld3
import Derived.Deep.RegionLaw
namespace Go.Proofs.Ytdhhdnopilfifaa
open Go.RowKit

/-- What stands behind the switch: three truths; the first two tell what holds. -/
def BrI (e : ND) (w wx : World) (s3 s4 s5 : Value) : Prop := ∃ b3 b4 b5 : Bool, s3 = .bool b3 ∧ s4 = .bool b4 ∧ s5 = .bool b5 ∧ (b3 = true → b4 = true → BareP e) ∧ Below w.heap.size w wx
theorem brI {e : ND} {w wx : World} {b3 b4 b5 : Bool} (h : b3 = true → b4 = true → BareP e) (hb : Below w.heap.size w wx) : BrI e w wx (.bool b3) (.bool b4) (.bool b5) := ⟨b3, b4, b5, rfl, rfl, rfl, h, hb⟩
theorem op_un {e : ND} (hk : e.kind = 22) (ho : 1 ≤ e.op ∧ e.op ≤ 4) : BareP e := ⟨fun g => by exfalso; omega, fun _ => ho, fun g => by exfalso; omega, fun g => by exfalso; omega⟩
theorem op_bin {e : ND} (hk : e.kind = 23) (ho : 1 ≤ e.op ∧ e.op ≤ 19) : BareP e := ⟨fun g => by exfalso; omega, fun g => by exfalso; omega, fun _ => ho, fun g => by exfalso; omega⟩
theorem field_of {e : ND} (hk : e.kind = 35) (ho : FieldB e.flag e.op) : BareP e := ⟨fun g => by exfalso; omega, fun g => by exfalso; omega, fun g => by exfalso; omega, fun _ => ho⟩
theorem keep6 {w w' : World} (hb : Below w.heap.size w w') {p1 p2 p3 : Addr} {u1 u2 u3 : Value} (c1 : w.cell? p1 = some u1) (c2 : w.cell? p2 = some u2) (c3 : w.cell? p3 = some u3) : Below w.heap.size w w' ∧ w'.cell? p1 = some u1 ∧ w'.cell? p2 = some u2 ∧ w'.cell? p3 = some u3 :=
  have k : ∀ {p : Addr} {u : Value}, w.cell? p = some u → w'.cell? p = some u := fun {p} {_} h => (hb.cell (World.block_lt_of_cell? w p h)).trans h
  ⟨hb, k c1, k c2, k c3⟩
set_option maxRecDepth 100000 in
set_option maxHeartbeats 12800000 in
theorem bare_any (e : ND) (ht : e.text.size ≤ 2147483647) (w : World) : Calls Try.prog 17 #[.agg #[.int .i64 e.kind, .int .i64 e.op, .string e.text, .int .i64 e.flag, .int .i64 e.size]] w (BPost (BareP e) w) := by
  obtain ⟨W1, hW1, hb0, hs0, x0, x1, x2, x3, x4⟩ := box_facts e w
  have HB0 := Lib.hid hb0
  have KI := Lib.hid (fun (w' : World) => Identifier_any e.text (by unfold maxLen; omega) w')
  have KP := Lib.hid (fun (w' : World) => Points_any e.text ht w')
  have KS := Lib.hid (fun (w' : World) => Identifier_sure e.text (by unfold maxLen; omega) w')
  have KN := Lib.hid (fun (w' : World) => Number_any e.text ht w')
  have KF := Lib.hid (fun (w' : World) => fieldBare_any e ht w')
  clear hb0
  go_enter Try.func17, Try.ntmps17
  go_wp2_with fail
  go_quiet ((fail))
  go_upto_block 0 with fail
  have HQ := Lib.hid (below_drewN HB0.out nq)
  have HW := Lib.hid hW1
  have z0 : (W1.drewN nq).cell? ⟨w.heap.size, 0, none⟩ = some (.int .i64 e.kind) := x0
  have z1 : (W1.drewN nq).cell? ⟨w.heap.size, 1, none⟩ = some (.int .i64 e.op) := x1
  have z2 : (W1.drewN nq).cell? ⟨w.heap.size, 2, none⟩ = some (.string e.text) := x2
  have z3 : (W1.drewN nq).cell? ⟨w.heap.size, 3, none⟩ = some (.int .i64 e.flag) := x3
  have z4 : (W1.drewN nq).cell? ⟨w.heap.size, 4, none⟩ = some (.int .i64 e.size) := x4
  have hs1 : w.heap.size < (W1.drewN nq).heap.size := hs0
  clear x0 x1 x2 x3 x4 hs0 hW1 HB0
  generalize W1.drewN nq = W2 at *
  go_cut [3, 4, 5] (fun s3 s4 s5 wx => Hid (BrI e w wx s3 s4 s5))
  case first =>
    by_cases k4 : e.kind = 4
    · have HK := Lib.hid k4
      try clear k4
      have q4 : (e.kind == 4) = true := by rw [HK.out]; rfl
      have q5 : (e.kind == 5) = false := by rw [HK.out]; rfl
      have q26 : (e.kind == 26) = false := by rw [HK.out]; rfl
      have q27 : (e.kind == 27) = false := by rw [HK.out]; rfl
      have q28 : (e.kind == 28) = false := by rw [HK.out]; rfl
      have q8 : (e.kind == 8) = false := by rw [HK.out]; rfl
      have q16 : (e.kind == 16) = false := by rw [HK.out]; rfl
      have q33 : (e.kind == 33) = false := by rw [HK.out]; rfl
      have q38 : (e.kind == 38) = false := by rw [HK.out]; rfl
      have q32 : (e.kind == 32) = false := by rw [HK.out]; rfl
      have q34 : (e.kind == 34) = false := by rw [HK.out]; rfl
      have q9 : (e.kind == 9) = false := by rw [HK.out]; rfl
      have q18 : (e.kind == 18) = false := by rw [HK.out]; rfl
      have q25 : (e.kind == 25) = false := by rw [HK.out]; rfl
      have q37 : (e.kind == 37) = false := by rw [HK.out]; rfl
      have q22 : (e.kind == 22) = false := by rw [HK.out]; rfl
      have q23 : (e.kind == 23) = false := by rw [HK.out]; rfl
      have q35 : (e.kind == 35) = false := by rw [HK.out]; rfl
      rcases hte : e.text.toList.isEmpty with _ | _
      · have htb : (!e.text.toList.isEmpty) = true := by rw [hte]; rfl
        go_wp2_with fail
        go_region_held3 (fun w' => Below W2.heap.size W2 w' ∧ w'.cell? ⟨w.heap.size, 2, none⟩ = some (.string e.text) ∧ w'.cell? ⟨w.heap.size, 3, none⟩ = some (.int .i64 e.flag) ∧ w'.cell? ⟨w.heap.size, 1, none⟩ = some (.int .i64 e.op))
          ((refine keep6 ?_ z2 z3 z1; repeat (first | with_reducible exact Below.refl _ _ | with_reducible exact hk9 | with_reducible apply Below.drew)))
          ((go_at_call 24; refine (KN.out _).mono ?_; rintro e9 w9 ⟨⟨r9, rfl, -⟩, hb9⟩; have hk9 : Below W2.heap.size W2 w9 := (Below.refl W2.heap.size W2).drew.trans hb9))
        all_goals
          have HB1 := Lib.hid (HQ.out.trans (hk9.mono HQ.out.size))
          go_wp2_with fail
          go_meet
          first
            | exact Lib.hid (brI (fun _ _ => bare_plain (by rw [HK.out]; decide)) HB1.out)
            | exact Lib.hid (brI (fun _ _ => bare_plain (by rw [HK.out]; decide)) HB1.out.drew)
      · go_wp2_with fail
        go_quiet ((fail))
        go_wp2_with fail
        go_meet
        exact Lib.hid (brI (fun _ _ => bare_plain (by rw [HK.out]; decide)) (below_drewN HQ.out _))
    by_cases k5 : e.kind = 5
    · have HK := Lib.hid k5
      try clear k5
      try clear k4
      have q4 : (e.kind == 4) = false := by rw [HK.out]; rfl
      have q5 : (e.kind == 5) = true := by rw [HK.out]; rfl
      have q26 : (e.kind == 26) = false := by rw [HK.out]; rfl
      have q27 : (e.kind == 27) = false := by rw [HK.out]; rfl
      have q28 : (e.kind == 28) = false := by rw [HK.out]; rfl
      have q8 : (e.kind == 8) = false := by rw [HK.out]; rfl
      have q16 : (e.kind == 16) = false := by rw [HK.out]; rfl
      have q33 : (e.kind == 33) = false := by rw [HK.out]; rfl
      have q38 : (e.kind == 38) = false := by rw [HK.out]; rfl
      have q32 : (e.kind == 32) = false := by rw [HK.out]; rfl
      have q34 : (e.kind == 34) = false := by rw [HK.out]; rfl
      have q9 : (e.kind == 9) = false := by rw [HK.out]; rfl
      have q18 : (e.kind == 18) = false := by rw [HK.out]; rfl
      have q25 : (e.kind == 25) = false := by rw [HK.out]; rfl
      have q37 : (e.kind == 37) = false := by rw [HK.out]; rfl
      have q22 : (e.kind == 22) = false := by rw [HK.out]; rfl
      have q23 : (e.kind == 23) = false := by rw [HK.out]; rfl
      have q35 : (e.kind == 35) = false := by rw [HK.out]; rfl
      go_wp2_with fail
      refine (KP.out _).mono ?_
      rintro e1 w1 ⟨⟨b1, rfl⟩, hb1⟩
      have HB1 := Lib.hid (HQ.out.trans (hb1.mono HQ.out.size))
      have y2 := (hb1.cell (p := ⟨w.heap.size, 2, none⟩) (by show w.heap.size < _; exact hs1)).trans z2
      clear hb1
      cases s1 : (e.text.toList == [58]) <;> cases s2 : (e.text.toList == [58, 58]) <;> cases b1
      all_goals
        go_wp2_with fail
        go_meet
        exact Lib.hid (brI (fun _ _ => bare_plain (by rw [HK.out]; decide)) HB1.out)
    by_cases k26 : e.kind = 26
    · have HK := Lib.hid k26
      try clear k26
      try clear k4
      try clear k5
      have q4 : (e.kind == 4) = false := by rw [HK.out]; rfl
      have q5 : (e.kind == 5) = false := by rw [HK.out]; rfl
      have q26 : (e.kind == 26) = true := by rw [HK.out]; rfl
      have q27 : (e.kind == 27) = false := by rw [HK.out]; rfl
      have q28 : (e.kind == 28) = false := by rw [HK.out]; rfl
      have q8 : (e.kind == 8) = false := by rw [HK.out]; rfl
      have q16 : (e.kind == 16) = false := by rw [HK.out]; rfl
      have q33 : (e.kind == 33) = false := by rw [HK.out]; rfl
      have q38 : (e.kind == 38) = false := by rw [HK.out]; rfl
      have q32 : (e.kind == 32) = false := by rw [HK.out]; rfl
      have q34 : (e.kind == 34) = false := by rw [HK.out]; rfl
      have q9 : (e.kind == 9) = false := by rw [HK.out]; rfl
      have q18 : (e.kind == 18) = false := by rw [HK.out]; rfl
      have q25 : (e.kind == 25) = false := by rw [HK.out]; rfl
      have q37 : (e.kind == 37) = false := by rw [HK.out]; rfl
      have q22 : (e.kind == 22) = false := by rw [HK.out]; rfl
      have q23 : (e.kind == 23) = false := by rw [HK.out]; rfl
      have q35 : (e.kind == 35) = false := by rw [HK.out]; rfl
      go_wp2_with fail
      refine (KP.out _).mono ?_
      rintro e1 w1 ⟨⟨b1, rfl⟩, hb1⟩
      have HB1 := Lib.hid (HQ.out.trans (hb1.mono HQ.out.size))
      clear hb1
      go_wp2_with fail
      go_meet
      exact Lib.hid (brI (fun _ _ => bare_plain (by rw [HK.out]; decide)) HB1.out)
    by_cases k27 : e.kind = 27
    · have HK := Lib.hid k27
      try clear k27
      try clear k4
      try clear k5
      try clear k26
      have q4 : (e.kind == 4) = false := by rw [HK.out]; rfl
      have q5 : (e.kind == 5) = false := by rw [HK.out]; rfl
      have q26 : (e.kind == 26) = false := by rw [HK.out]; rfl
      have q27 : (e.kind == 27) = true := by rw [HK.out]; rfl
      have q28 : (e.kind == 28) = false := by rw [HK.out]; rfl
      have q8 : (e.kind == 8) = false := by rw [HK.out]; rfl
      have q16 : (e.kind == 16) = false := by rw [HK.out]; rfl
      have q33 : (e.kind == 33) = false := by rw [HK.out]; rfl
      have q38 : (e.kind == 38) = false := by rw [HK.out]; rfl
      have q32 : (e.kind == 32) = false := by rw [HK.out]; rfl
      have q34 : (e.kind == 34) = false := by rw [HK.out]; rfl
      have q9 : (e.kind == 9) = false := by rw [HK.out]; rfl
      have q18 : (e.kind == 18) = false := by rw [HK.out]; rfl
      have q25 : (e.kind == 25) = false := by rw [HK.out]; rfl
      have q37 : (e.kind == 37) = false := by rw [HK.out]; rfl
      have q22 : (e.kind == 22) = false := by rw [HK.out]; rfl
      have q23 : (e.kind == 23) = false := by rw [HK.out]; rfl
      have q35 : (e.kind == 35) = false := by rw [HK.out]; rfl
      go_wp2_with fail
      refine (KP.out _).mono ?_
      rintro e1 w1 ⟨⟨b1, rfl⟩, hb1⟩
      have HB1 := Lib.hid (HQ.out.trans (hb1.mono HQ.out.size))
      clear hb1
      go_wp2_with fail
      go_meet
      exact Lib.hid (brI (fun _ _ => bare_plain (by rw [HK.out]; decide)) HB1.out)
    by_cases k28 : e.kind = 28
    · have HK := Lib.hid k28
      try clear k28
      try clear k4
      try clear k5
      try clear k26
      try clear k27
      have q4 : (e.kind == 4) = false := by rw [HK.out]; rfl
      have q5 : (e.kind == 5) = false := by rw [HK.out]; rfl
      have q26 : (e.kind == 26) = false := by rw [HK.out]; rfl
      have q27 : (e.kind == 27) = false := by rw [HK.out]; rfl
      have q28 : (e.kind == 28) = true := by rw [HK.out]; rfl
      have q8 : (e.kind == 8) = false := by rw [HK.out]; rfl
      have q16 : (e.kind == 16) = false := by rw [HK.out]; rfl
      have q33 : (e.kind == 33) = false := by rw [HK.out]; rfl
      have q38 : (e.kind == 38) = false := by rw [HK.out]; rfl
      have q32 : (e.kind == 32) = false := by rw [HK.out]; rfl
      have q34 : (e.kind == 34) = false := by rw [HK.out]; rfl
      have q9 : (e.kind == 9) = false := by rw [HK.out]; rfl
      have q18 : (e.kind == 18) = false := by rw [HK.out]; rfl
      have q25 : (e.kind == 25) = false := by rw [HK.out]; rfl
      have q37 : (e.kind == 37) = false := by rw [HK.out]; rfl
      have q22 : (e.kind == 22) = false := by rw [HK.out]; rfl
      have q23 : (e.kind == 23) = false := by rw [HK.out]; rfl
      have q35 : (e.kind == 35) = false := by rw [HK.out]; rfl
      go_wp2_with fail
      refine (KP.out _).mono ?_
      rintro e1 w1 ⟨⟨b1, rfl⟩, hb1⟩
      have HB1 := Lib.hid (HQ.out.trans (hb1.mono HQ.out.size))
      clear hb1
      go_wp2_with fail
      go_meet
      exact Lib.hid (brI (fun _ _ => bare_plain (by rw [HK.out]; decide)) HB1.out)
    by_cases k8 : e.kind = 8
    · have HK := Lib.hid k8
      try clear k8
      try clear k4
      try clear k5
      try clear k26
      try clear k27
      try clear k28
      have q4 : (e.kind == 4) = false := by rw [HK.out]; rfl
      have q5 : (e.kind == 5) = false := by rw [HK.out]; rfl
      have q26 : (e.kind == 26) = false := by rw [HK.out]; rfl
      have q27 : (e.kind == 27) = false := by rw [HK.out]; rfl
      have q28 : (e.kind == 28) = false := by rw [HK.out]; rfl
      have q8 : (e.kind == 8) = true := by rw [HK.out]; rfl
      have q16 : (e.kind == 16) = false := by rw [HK.out]; rfl
      have q33 : (e.kind == 33) = false := by rw [HK.out]; rfl
      have q38 : (e.kind == 38) = false := by rw [HK.out]; rfl
      have q32 : (e.kind == 32) = false := by rw [HK.out]; rfl
      have q34 : (e.kind == 34) = false := by rw [HK.out]; rfl
      have q9 : (e.kind == 9) = false := by rw [HK.out]; rfl
      have q18 : (e.kind == 18) = false := by rw [HK.out]; rfl
      have q25 : (e.kind == 25) = false := by rw [HK.out]; rfl
      have q37 : (e.kind == 37) = false := by rw [HK.out]; rfl
      have q22 : (e.kind == 22) = false := by rw [HK.out]; rfl
      have q23 : (e.kind == 23) = false := by rw [HK.out]; rfl
      have q35 : (e.kind == 35) = false := by rw [HK.out]; rfl
      go_wp2_with fail
      refine (KI.out _).mono ?_
      rintro e1 w1 ⟨⟨b1, rfl⟩, hb1⟩
      have HB1 := Lib.hid (HQ.out.trans (hb1.mono HQ.out.size))
      clear hb1
      go_wp2_with fail
      go_meet
      exact Lib.hid (brI (fun _ _ => bare_plain (by rw [HK.out]; decide)) HB1.out)
    by_cases k16 : e.kind = 16
    · have HK := Lib.hid k16
      try clear k16
      try clear k4
      try clear k5
      try clear k26
      try clear k27
      try clear k28
      try clear k8
      have q4 : (e.kind == 4) = false := by rw [HK.out]; rfl
      have q5 : (e.kind == 5) = false := by rw [HK.out]; rfl
      have q26 : (e.kind == 26) = false := by rw [HK.out]; rfl
      have q27 : (e.kind == 27) = false := by rw [HK.out]; rfl
      have q28 : (e.kind == 28) = false := by rw [HK.out]; rfl
      have q8 : (e.kind == 8) = false := by rw [HK.out]; rfl
      have q16 : (e.kind == 16) = true := by rw [HK.out]; rfl
      have q33 : (e.kind == 33) = false := by rw [HK.out]; rfl
      have q38 : (e.kind == 38) = false := by rw [HK.out]; rfl
      have q32 : (e.kind == 32) = false := by rw [HK.out]; rfl
      have q34 : (e.kind == 34) = false := by rw [HK.out]; rfl
      have q9 : (e.kind == 9) = false := by rw [HK.out]; rfl
      have q18 : (e.kind == 18) = false := by rw [HK.out]; rfl
      have q25 : (e.kind == 25) = false := by rw [HK.out]; rfl
      have q37 : (e.kind == 37) = false := by rw [HK.out]; rfl
      have q22 : (e.kind == 22) = false := by rw [HK.out]; rfl
      have q23 : (e.kind == 23) = false := by rw [HK.out]; rfl
      have q35 : (e.kind == 35) = false := by rw [HK.out]; rfl
      go_wp2_with fail
      refine (KI.out _).mono ?_
      rintro e1 w1 ⟨⟨b1, rfl⟩, hb1⟩
      have HB1 := Lib.hid (HQ.out.trans (hb1.mono HQ.out.size))
      clear hb1
      go_wp2_with fail
      go_meet
      exact Lib.hid (brI (fun _ _ => bare_plain (by rw [HK.out]; decide)) HB1.out)
    by_cases k33 : e.kind = 33
    · have HK := Lib.hid k33
      try clear k33
      try clear k4
      try clear k5
      try clear k26
      try clear k27
      try clear k28
      try clear k8
      try clear k16
      have q4 : (e.kind == 4) = false := by rw [HK.out]; rfl
      have q5 : (e.kind == 5) = false := by rw [HK.out]; rfl
      have q26 : (e.kind == 26) = false := by rw [HK.out]; rfl
      have q27 : (e.kind == 27) = false := by rw [HK.out]; rfl
      have q28 : (e.kind == 28) = false := by rw [HK.out]; rfl
      have q8 : (e.kind == 8) = false := by rw [HK.out]; rfl
      have q16 : (e.kind == 16) = false := by rw [HK.out]; rfl
      have q33 : (e.kind == 33) = true := by rw [HK.out]; rfl
      have q38 : (e.kind == 38) = false := by rw [HK.out]; rfl
      have q32 : (e.kind == 32) = false := by rw [HK.out]; rfl
      have q34 : (e.kind == 34) = false := by rw [HK.out]; rfl
      have q9 : (e.kind == 9) = false := by rw [HK.out]; rfl
      have q18 : (e.kind == 18) = false := by rw [HK.out]; rfl
      have q25 : (e.kind == 25) = false := by rw [HK.out]; rfl
      have q37 : (e.kind == 37) = false := by rw [HK.out]; rfl
      have q22 : (e.kind == 22) = false := by rw [HK.out]; rfl
      have q23 : (e.kind == 23) = false := by rw [HK.out]; rfl
      have q35 : (e.kind == 35) = false := by rw [HK.out]; rfl
      go_wp2_with fail
      refine (KI.out _).mono ?_
      rintro e1 w1 ⟨⟨b1, rfl⟩, hb1⟩
      have HB1 := Lib.hid (HQ.out.trans (hb1.mono HQ.out.size))
      clear hb1
      go_wp2_with fail
      go_meet
      exact Lib.hid (brI (fun _ _ => bare_plain (by rw [HK.out]; decide)) HB1.out)
    by_cases k38 : e.kind = 38
    · have HK := Lib.hid k38
      try clear k38
      try clear k4
      try clear k5
      try clear k26
      try clear k27
      try clear k28
      try clear k8
      try clear k16
      try clear k33
      have q4 : (e.kind == 4) = false := by rw [HK.out]; rfl
      have q5 : (e.kind == 5) = false := by rw [HK.out]; rfl
      have q26 : (e.kind == 26) = false := by rw [HK.out]; rfl
      have q27 : (e.kind == 27) = false := by rw [HK.out]; rfl
      have q28 : (e.kind == 28) = false := by rw [HK.out]; rfl
      have q8 : (e.kind == 8) = false := by rw [HK.out]; rfl
      have q16 : (e.kind == 16) = false := by rw [HK.out]; rfl
      have q33 : (e.kind == 33) = false := by rw [HK.out]; rfl
      have q38 : (e.kind == 38) = true := by rw [HK.out]; rfl
      have q32 : (e.kind == 32) = false := by rw [HK.out]; rfl
      have q34 : (e.kind == 34) = false := by rw [HK.out]; rfl
      have q9 : (e.kind == 9) = false := by rw [HK.out]; rfl
      have q18 : (e.kind == 18) = false := by rw [HK.out]; rfl
      have q25 : (e.kind == 25) = false := by rw [HK.out]; rfl
      have q37 : (e.kind == 37) = false := by rw [HK.out]; rfl
      have q22 : (e.kind == 22) = false := by rw [HK.out]; rfl
      have q23 : (e.kind == 23) = false := by rw [HK.out]; rfl
      have q35 : (e.kind == 35) = false := by rw [HK.out]; rfl
      go_wp2_with fail
      refine (KI.out _).mono ?_
      rintro e1 w1 ⟨⟨b1, rfl⟩, hb1⟩
      have HB1 := Lib.hid (HQ.out.trans (hb1.mono HQ.out.size))
      clear hb1
      go_wp2_with fail
      go_meet
      exact Lib.hid (brI (fun _ _ => bare_plain (by rw [HK.out]; decide)) HB1.out)
    by_cases k32 : e.kind = 32
    · have HK := Lib.hid k32
      try clear k32
      try clear k4
      try clear k5
      try clear k26
      try clear k27
      try clear k28
      try clear k8
      try clear k16
      try clear k33
      try clear k38
      have q4 : (e.kind == 4) = false := by rw [HK.out]; rfl
      have q5 : (e.kind == 5) = false := by rw [HK.out]; rfl
      have q26 : (e.kind == 26) = false := by rw [HK.out]; rfl
      have q27 : (e.kind == 27) = false := by rw [HK.out]; rfl
      have q28 : (e.kind == 28) = false := by rw [HK.out]; rfl
      have q8 : (e.kind == 8) = false := by rw [HK.out]; rfl
      have q16 : (e.kind == 16) = false := by rw [HK.out]; rfl
      have q33 : (e.kind == 33) = false := by rw [HK.out]; rfl
      have q38 : (e.kind == 38) = false := by rw [HK.out]; rfl
      have q32 : (e.kind == 32) = true := by rw [HK.out]; rfl
      have q34 : (e.kind == 34) = false := by rw [HK.out]; rfl
      have q9 : (e.kind == 9) = false := by rw [HK.out]; rfl
      have q18 : (e.kind == 18) = false := by rw [HK.out]; rfl
      have q25 : (e.kind == 25) = false := by rw [HK.out]; rfl
      have q37 : (e.kind == 37) = false := by rw [HK.out]; rfl
      have q22 : (e.kind == 22) = false := by rw [HK.out]; rfl
      have q23 : (e.kind == 23) = false := by rw [HK.out]; rfl
      have q35 : (e.kind == 35) = false := by rw [HK.out]; rfl
      by_cases hf0 : e.flag = 0
      · have HF := Lib.hid (Or.inl hf0 : e.flag = 0 ∨ e.flag = 1)
        rw [hf0] at z3
        have f0 : (e.flag == 0) = true := by rw [hf0]; rfl
        clear hf0
        go_wp2_with fail
        have l2 := fun (y : Later W2) => Later.cell z2 y
        have l3 := fun (y : Later W2) => Later.cell z3 y
        refine wp_region_later (by kernel_rfl) (by kernel_rfl) ?_
        repeat (go_big_quiet_step ((go_at_call 26; exact later_call (KS.out _))))
        refine wpQuiet_nil ?_
        rintro w1 ⟨y, rfl⟩
        have HB1 := Lib.hid (HQ.out.trans (y.ok.mono HQ.out.size))
        go_wp2_with fail
        go_meet
        exact Lib.hid (brI (fun _ _ => bare_flag (.inr (.inr (.inr (.inr HK.out)))) HF.out) HB1.out)
      · by_cases hf1 : e.flag = 1
        · have HF := Lib.hid (Or.inr hf1 : e.flag = 0 ∨ e.flag = 1)
          rw [hf1] at z3
          have f0 : (e.flag == 0) = false := by rw [hf1]; rfl
          clear hf0 hf1
          go_wp2_with fail
          have l2 := fun (y : Later W2) => Later.cell z2 y
          have l3 := fun (y : Later W2) => Later.cell z3 y
          refine wp_region_later (by kernel_rfl) (by kernel_rfl) ?_
          repeat (go_big_quiet_step ((go_at_call 26; exact later_call (KS.out _))))
          refine wpQuiet_nil ?_
          rintro w1 ⟨y, rfl⟩
          have HB1 := Lib.hid (HQ.out.trans (y.ok.mono HQ.out.size))
          go_wp2_with fail
          go_meet
          exact Lib.hid (brI (fun _ _ => bare_flag (.inr (.inr (.inr (.inr HK.out)))) HF.out) HB1.out)
        · have f0 : (e.flag == 0) = false := by simpa using hf0
          have f1 : (e.flag == 1) = false := by simpa using hf1
          clear hf0 hf1
          go_wp2_with fail
          have l2 := fun (y : Later W2) => Later.cell z2 y
          have l3 := fun (y : Later W2) => Later.cell z3 y
          refine wp_region_later (by kernel_rfl) (by kernel_rfl) ?_
          repeat (go_big_quiet_step ((go_at_call 26; exact later_call (KS.out _))))
          refine wpQuiet_nil ?_
          rintro w1 ⟨y, rfl⟩
          have HB1 := Lib.hid (HQ.out.trans (y.ok.mono HQ.out.size))
          go_wp2_with fail
          go_meet
          exact Lib.hid (brI (fun h _ => by cases h) HB1.out)
    by_cases k34 : e.kind = 34
    · have HK := Lib.hid k34
      try clear k34
      try clear k4
      try clear k5
      try clear k26
      try clear k27
      try clear k28
      try clear k8
      try clear k16
      try clear k33
      try clear k38
      try clear k32
      have q4 : (e.kind == 4) = false := by rw [HK.out]; rfl
      have q5 : (e.kind == 5) = false := by rw [HK.out]; rfl
      have q26 : (e.kind == 26) = false := by rw [HK.out]; rfl
      have q27 : (e.kind == 27) = false := by rw [HK.out]; rfl
      have q28 : (e.kind == 28) = false := by rw [HK.out]; rfl
      have q8 : (e.kind == 8) = false := by rw [HK.out]; rfl
      have q16 : (e.kind == 16) = false := by rw [HK.out]; rfl
      have q33 : (e.kind == 33) = false := by rw [HK.out]; rfl
      have q38 : (e.kind == 38) = false := by rw [HK.out]; rfl
      have q32 : (e.kind == 32) = false := by rw [HK.out]; rfl
      have q34 : (e.kind == 34) = true := by rw [HK.out]; rfl
      have q9 : (e.kind == 9) = false := by rw [HK.out]; rfl
      have q18 : (e.kind == 18) = false := by rw [HK.out]; rfl
      have q25 : (e.kind == 25) = false := by rw [HK.out]; rfl
      have q37 : (e.kind == 37) = false := by rw [HK.out]; rfl
      have q22 : (e.kind == 22) = false := by rw [HK.out]; rfl
      have q23 : (e.kind == 23) = false := by rw [HK.out]; rfl
      have q35 : (e.kind == 35) = false := by rw [HK.out]; rfl
      rcases hte : e.text.toList.isEmpty with _ | _
      · go_wp2_with fail
        refine (KI.out _).mono ?_
        rintro e1 w1 ⟨⟨b1, rfl⟩, hb1⟩
        have HB1 := Lib.hid (HQ.out.trans (hb1.mono HQ.out.size))
        clear hb1
        go_wp2_with fail
        go_meet
        exact Lib.hid (brI (fun _ _ => bare_plain (by rw [HK.out]; decide)) HB1.out)
      · go_wp2_with fail
        go_meet
        exact Lib.hid (brI (fun _ _ => bare_plain (by rw [HK.out]; decide)) HQ.out)
    by_cases k9 : e.kind = 9
    · have HK := Lib.hid k9
      try clear k9
      try clear k4
      try clear k5
      try clear k26
      try clear k27
      try clear k28
      try clear k8
      try clear k16
      try clear k33
      try clear k38
      try clear k32
      try clear k34
      have q4 : (e.kind == 4) = false := by rw [HK.out]; rfl
      have q5 : (e.kind == 5) = false := by rw [HK.out]; rfl
      have q26 : (e.kind == 26) = false := by rw [HK.out]; rfl
      have q27 : (e.kind == 27) = false := by rw [HK.out]; rfl
      have q28 : (e.kind == 28) = false := by rw [HK.out]; rfl
      have q8 : (e.kind == 8) = false := by rw [HK.out]; rfl
      have q16 : (e.kind == 16) = false := by rw [HK.out]; rfl
      have q33 : (e.kind == 33) = false := by rw [HK.out]; rfl
      have q38 : (e.kind == 38) = false := by rw [HK.out]; rfl
      have q32 : (e.kind == 32) = false := by rw [HK.out]; rfl
      have q34 : (e.kind == 34) = false := by rw [HK.out]; rfl
      have q9 : (e.kind == 9) = true := by rw [HK.out]; rfl
      have q18 : (e.kind == 18) = false := by rw [HK.out]; rfl
      have q25 : (e.kind == 25) = false := by rw [HK.out]; rfl
      have q37 : (e.kind == 37) = false := by rw [HK.out]; rfl
      have q22 : (e.kind == 22) = false := by rw [HK.out]; rfl
      have q23 : (e.kind == 23) = false := by rw [HK.out]; rfl
      have q35 : (e.kind == 35) = false := by rw [HK.out]; rfl
      by_cases hf0 : e.flag = 0
      · have HF := Lib.hid (Or.inl hf0 : e.flag = 0 ∨ e.flag = 1)
        rw [hf0] at z3
        have f0 : (e.flag == 0) = true := by rw [hf0]; rfl
        clear hf0
        rcases hte : e.text.toList.isEmpty with _ | _
        · go_wp2_with fail
          have l2 := fun (y : Later W2) => Later.cell z2 y
          have l3 := fun (y : Later W2) => Later.cell z3 y
          refine wp_region_later (by kernel_rfl) (by kernel_rfl) ?_
          repeat (go_big_quiet_step ((go_at_call 26; exact later_call (KS.out _))))
          refine wpQuiet_nil ?_
          rintro w1 ⟨y, rfl⟩
          have HB1 := Lib.hid (HQ.out.trans (y.ok.mono HQ.out.size))
          go_wp2_with fail
          go_meet
          exact Lib.hid (brI (fun _ _ => bare_flag (.inl HK.out) HF.out) HB1.out)
        · go_wp2_with fail
          go_quiet ((fail))
          go_wp2_with fail
          go_meet
          exact Lib.hid (brI (fun _ _ => bare_flag (.inl HK.out) HF.out) (below_drewN HQ.out _))
      · by_cases hf1 : e.flag = 1
        · have HF := Lib.hid (Or.inr hf1 : e.flag = 0 ∨ e.flag = 1)
          rw [hf1] at z3
          have f0 : (e.flag == 0) = false := by rw [hf1]; rfl
          clear hf0 hf1
          rcases hte : e.text.toList.isEmpty with _ | _
          all_goals
            go_wp2_with fail
            have l2 := fun (y : Later W2) => Later.cell z2 y
            have l3 := fun (y : Later W2) => Later.cell z3 y
            refine wp_region_later (by kernel_rfl) (by kernel_rfl) ?_
            repeat (go_big_quiet_step ((go_at_call 26; exact later_call (KS.out _))))
            refine wpQuiet_nil ?_
            rintro w1 ⟨y, rfl⟩
            have HB1 := Lib.hid (HQ.out.trans (y.ok.mono HQ.out.size))
            go_wp2_with fail
            go_meet
            exact Lib.hid (brI (fun _ _ => bare_flag (.inl HK.out) HF.out) HB1.out)
        · have f0 : (e.flag == 0) = false := by simpa using hf0
          have f1 : (e.flag == 1) = false := by simpa using hf1
          clear hf0 hf1
          rcases hte : e.text.toList.isEmpty with _ | _
          all_goals
            go_wp2_with fail
            have l2 := fun (y : Later W2) => Later.cell z2 y
            have l3 := fun (y : Later W2) => Later.cell z3 y
            refine wp_region_later (by kernel_rfl) (by kernel_rfl) ?_
            repeat (go_big_quiet_step ((go_at_call 26; exact later_call (KS.out _))))
            refine wpQuiet_nil ?_
            rintro w1 ⟨y, rfl⟩
            have HB1 := Lib.hid (HQ.out.trans (y.ok.mono HQ.out.size))
            go_wp2_with fail
            go_meet
            exact Lib.hid (brI (fun h _ => by cases h) HB1.out)
    by_cases k18 : e.kind = 18
    · have HK := Lib.hid k18
      try clear k18
      try clear k4
      try clear k5
      try clear k26
      try clear k27
      try clear k28
      try clear k8
      try clear k16
      try clear k33
      try clear k38
      try clear k32
      try clear k34
      try clear k9
      have q4 : (e.kind == 4) = false := by rw [HK.out]; rfl
      have q5 : (e.kind == 5) = false := by rw [HK.out]; rfl
      have q26 : (e.kind == 26) = false := by rw [HK.out]; rfl
      have q27 : (e.kind == 27) = false := by rw [HK.out]; rfl
      have q28 : (e.kind == 28) = false := by rw [HK.out]; rfl
      have q8 : (e.kind == 8) = false := by rw [HK.out]; rfl
      have q16 : (e.kind == 16) = false := by rw [HK.out]; rfl
      have q33 : (e.kind == 33) = false := by rw [HK.out]; rfl
      have q38 : (e.kind == 38) = false := by rw [HK.out]; rfl
      have q32 : (e.kind == 32) = false := by rw [HK.out]; rfl
      have q34 : (e.kind == 34) = false := by rw [HK.out]; rfl
      have q9 : (e.kind == 9) = false := by rw [HK.out]; rfl
      have q18 : (e.kind == 18) = true := by rw [HK.out]; rfl
      have q25 : (e.kind == 25) = false := by rw [HK.out]; rfl
      have q37 : (e.kind == 37) = false := by rw [HK.out]; rfl
      have q22 : (e.kind == 22) = false := by rw [HK.out]; rfl
      have q23 : (e.kind == 23) = false := by rw [HK.out]; rfl
      have q35 : (e.kind == 35) = false := by rw [HK.out]; rfl
      by_cases hf : e.flag = 0 ∨ e.flag = 1
      · have HF := Lib.hid hf
        rcases hf with hf | hf
        all_goals
          have hc : ((e.flag == 0) = true ∧ (e.flag == 1) = false) ∨ ((e.flag == 0) = false ∧ (e.flag == 1) = true) := by rw [hf]; decide
          clear hf
          rcases hc with ⟨f0, f1⟩ | ⟨f0, f1⟩
          all_goals
            go_wp2_with fail
            go_meet
            exact Lib.hid (brI (fun _ _ => bare_flag (.inr (.inl HK.out)) HF.out) HQ.out)
      · have f0 : (e.flag == 0) = false := by simp; omega
        have f1 : (e.flag == 1) = false := by simp; omega
        clear hf
        go_wp2_with fail
        go_meet
        exact Lib.hid (brI (fun h _ => by cases h) HQ.out)
    by_cases k25 : e.kind = 25
    · have HK := Lib.hid k25
      try clear k25
      try clear k4
      try clear k5
      try clear k26
      try clear k27
      try clear k28
      try clear k8
      try clear k16
      try clear k33
      try clear k38
      try clear k32
      try clear k34
      try clear k9
      try clear k18
      have q4 : (e.kind == 4) = false := by rw [HK.out]; rfl
      have q5 : (e.kind == 5) = false := by rw [HK.out]; rfl
      have q26 : (e.kind == 26) = false := by rw [HK.out]; rfl
      have q27 : (e.kind == 27) = false := by rw [HK.out]; rfl
      have q28 : (e.kind == 28) = false := by rw [HK.out]; rfl
      have q8 : (e.kind == 8) = false := by rw [HK.out]; rfl
      have q16 : (e.kind == 16) = false := by rw [HK.out]; rfl
      have q33 : (e.kind == 33) = false := by rw [HK.out]; rfl
      have q38 : (e.kind == 38) = false := by rw [HK.out]; rfl
      have q32 : (e.kind == 32) = false := by rw [HK.out]; rfl
      have q34 : (e.kind == 34) = false := by rw [HK.out]; rfl
      have q9 : (e.kind == 9) = false := by rw [HK.out]; rfl
      have q18 : (e.kind == 18) = false := by rw [HK.out]; rfl
      have q25 : (e.kind == 25) = true := by rw [HK.out]; rfl
      have q37 : (e.kind == 37) = false := by rw [HK.out]; rfl
      have q22 : (e.kind == 22) = false := by rw [HK.out]; rfl
      have q23 : (e.kind == 23) = false := by rw [HK.out]; rfl
      have q35 : (e.kind == 35) = false := by rw [HK.out]; rfl
      by_cases hf : e.flag = 0 ∨ e.flag = 1
      · have HF := Lib.hid hf
        rcases hf with hf | hf
        all_goals
          have hc : ((e.flag == 0) = true ∧ (e.flag == 1) = false) ∨ ((e.flag == 0) = false ∧ (e.flag == 1) = true) := by rw [hf]; decide
          clear hf
          rcases hc with ⟨f0, f1⟩ | ⟨f0, f1⟩
          all_goals
            go_wp2_with fail
            go_meet
            exact Lib.hid (brI (fun _ _ => bare_flag (.inr (.inr (.inl HK.out))) HF.out) HQ.out)
      · have f0 : (e.flag == 0) = false := by simp; omega
        have f1 : (e.flag == 1) = false := by simp; omega
        clear hf
        go_wp2_with fail
        go_meet
        exact Lib.hid (brI (fun h _ => by cases h) HQ.out)
    by_cases k37 : e.kind = 37
    · have HK := Lib.hid k37
      try clear k37
      try clear k4
      try clear k5
      try clear k26
      try clear k27
      try clear k28
      try clear k8
      try clear k16
      try clear k33
      try clear k38
      try clear k32
      try clear k34
      try clear k9
      try clear k18
      try clear k25
      have q4 : (e.kind == 4) = false := by rw [HK.out]; rfl
      have q5 : (e.kind == 5) = false := by rw [HK.out]; rfl
      have q26 : (e.kind == 26) = false := by rw [HK.out]; rfl
      have q27 : (e.kind == 27) = false := by rw [HK.out]; rfl
      have q28 : (e.kind == 28) = false := by rw [HK.out]; rfl
      have q8 : (e.kind == 8) = false := by rw [HK.out]; rfl
      have q16 : (e.kind == 16) = false := by rw [HK.out]; rfl
      have q33 : (e.kind == 33) = false := by rw [HK.out]; rfl
      have q38 : (e.kind == 38) = false := by rw [HK.out]; rfl
      have q32 : (e.kind == 32) = false := by rw [HK.out]; rfl
      have q34 : (e.kind == 34) = false := by rw [HK.out]; rfl
      have q9 : (e.kind == 9) = false := by rw [HK.out]; rfl
      have q18 : (e.kind == 18) = false := by rw [HK.out]; rfl
      have q25 : (e.kind == 25) = false := by rw [HK.out]; rfl
      have q37 : (e.kind == 37) = true := by rw [HK.out]; rfl
      have q22 : (e.kind == 22) = false := by rw [HK.out]; rfl
      have q23 : (e.kind == 23) = false := by rw [HK.out]; rfl
      have q35 : (e.kind == 35) = false := by rw [HK.out]; rfl
      by_cases hf : e.flag = 0 ∨ e.flag = 1
      · have HF := Lib.hid hf
        rcases hf with hf | hf
        all_goals
          have hc : ((e.flag == 0) = true ∧ (e.flag == 1) = false) ∨ ((e.flag == 0) = false ∧ (e.flag == 1) = true) := by rw [hf]; decide
          clear hf
          rcases hc with ⟨f0, f1⟩ | ⟨f0, f1⟩
          all_goals
            go_wp2_with fail
            go_meet
            exact Lib.hid (brI (fun _ _ => bare_flag (.inr (.inr (.inr (.inl HK.out)))) HF.out) HQ.out)
      · have f0 : (e.flag == 0) = false := by simp; omega
        have f1 : (e.flag == 1) = false := by simp; omega
        clear hf
        go_wp2_with fail
        go_meet
        exact Lib.hid (brI (fun h _ => by cases h) HQ.out)
    by_cases k22 : e.kind = 22
    · have HK := Lib.hid k22
      try clear k22
      try clear k4
      try clear k5
      try clear k26
      try clear k27
      try clear k28
      try clear k8
      try clear k16
      try clear k33
      try clear k38
      try clear k32
      try clear k34
      try clear k9
      try clear k18
      try clear k25
      try clear k37
      have q4 : (e.kind == 4) = false := by rw [HK.out]; rfl
      have q5 : (e.kind == 5) = false := by rw [HK.out]; rfl
      have q26 : (e.kind == 26) = false := by rw [HK.out]; rfl
      have q27 : (e.kind == 27) = false := by rw [HK.out]; rfl
      have q28 : (e.kind == 28) = false := by rw [HK.out]; rfl
      have q8 : (e.kind == 8) = false := by rw [HK.out]; rfl
      have q16 : (e.kind == 16) = false := by rw [HK.out]; rfl
      have q33 : (e.kind == 33) = false := by rw [HK.out]; rfl
      have q38 : (e.kind == 38) = false := by rw [HK.out]; rfl
      have q32 : (e.kind == 32) = false := by rw [HK.out]; rfl
      have q34 : (e.kind == 34) = false := by rw [HK.out]; rfl
      have q9 : (e.kind == 9) = false := by rw [HK.out]; rfl
      have q18 : (e.kind == 18) = false := by rw [HK.out]; rfl
      have q25 : (e.kind == 25) = false := by rw [HK.out]; rfl
      have q37 : (e.kind == 37) = false := by rw [HK.out]; rfl
      have q22 : (e.kind == 22) = true := by rw [HK.out]; rfl
      have q23 : (e.kind == 23) = false := by rw [HK.out]; rfl
      have q35 : (e.kind == 35) = false := by rw [HK.out]; rfl
      by_cases ho : 1 ≤ e.op ∧ e.op ≤ 4
      · have HO := Lib.hid ho
        obtain ⟨h1, h2⟩ := ho
        go_wp2_with fail
        go_meet
        exact Lib.hid (brI (fun _ _ => op_un HK.out HO.out) HQ.out)
      · by_cases h1 : 1 ≤ e.op
        · have h2 : ¬ e.op ≤ 4 := by omega
          clear ho
          go_wp2_with fail
          go_meet
          exact Lib.hid (brI (fun _ h => by cases h) HQ.out)
        · clear ho
          go_wp2_with fail
          go_meet
          exact Lib.hid (brI (fun _ h => by cases h) HQ.out)
    by_cases k23 : e.kind = 23
    · have HK := Lib.hid k23
      try clear k23
      try clear k4
      try clear k5
      try clear k26
      try clear k27
      try clear k28
      try clear k8
      try clear k16
      try clear k33
      try clear k38
      try clear k32
      try clear k34
      try clear k9
      try clear k18
      try clear k25
      try clear k37
      try clear k22
      have q4 : (e.kind == 4) = false := by rw [HK.out]; rfl
      have q5 : (e.kind == 5) = false := by rw [HK.out]; rfl
      have q26 : (e.kind == 26) = false := by rw [HK.out]; rfl
      have q27 : (e.kind == 27) = false := by rw [HK.out]; rfl
      have q28 : (e.kind == 28) = false := by rw [HK.out]; rfl
      have q8 : (e.kind == 8) = false := by rw [HK.out]; rfl
      have q16 : (e.kind == 16) = false := by rw [HK.out]; rfl
      have q33 : (e.kind == 33) = false := by rw [HK.out]; rfl
      have q38 : (e.kind == 38) = false := by rw [HK.out]; rfl
      have q32 : (e.kind == 32) = false := by rw [HK.out]; rfl
      have q34 : (e.kind == 34) = false := by rw [HK.out]; rfl
      have q9 : (e.kind == 9) = false := by rw [HK.out]; rfl
      have q18 : (e.kind == 18) = false := by rw [HK.out]; rfl
      have q25 : (e.kind == 25) = false := by rw [HK.out]; rfl
      have q37 : (e.kind == 37) = false := by rw [HK.out]; rfl
      have q22 : (e.kind == 22) = false := by rw [HK.out]; rfl
      have q23 : (e.kind == 23) = true := by rw [HK.out]; rfl
      have q35 : (e.kind == 35) = false := by rw [HK.out]; rfl
      by_cases ho : 1 ≤ e.op ∧ e.op ≤ 19
      · have HO := Lib.hid ho
        obtain ⟨h1, h2⟩ := ho
        go_wp2_with fail
        go_meet
        exact Lib.hid (brI (fun _ _ => op_bin HK.out HO.out) HQ.out)
      · by_cases h1 : 1 ≤ e.op
        · have h2 : ¬ e.op ≤ 19 := by omega
          clear ho
          go_wp2_with fail
          go_meet
          exact Lib.hid (brI (fun _ h => by cases h) HQ.out)
        · clear ho
          go_wp2_with fail
          go_meet
          exact Lib.hid (brI (fun _ h => by cases h) HQ.out)
    by_cases k35 : e.kind = 35
    · have HK := Lib.hid k35
      try clear k35
      try clear k4
      try clear k5
      try clear k26
      try clear k27
      try clear k28
      try clear k8
      try clear k16
      try clear k33
      try clear k38
      try clear k32
      try clear k34
      try clear k9
      try clear k18
      try clear k25
      try clear k37
      try clear k22
      try clear k23
      have q4 : (e.kind == 4) = false := by rw [HK.out]; rfl
      have q5 : (e.kind == 5) = false := by rw [HK.out]; rfl
      have q26 : (e.kind == 26) = false := by rw [HK.out]; rfl
      have q27 : (e.kind == 27) = false := by rw [HK.out]; rfl
      have q28 : (e.kind == 28) = false := by rw [HK.out]; rfl
      have q8 : (e.kind == 8) = false := by rw [HK.out]; rfl
      have q16 : (e.kind == 16) = false := by rw [HK.out]; rfl
      have q33 : (e.kind == 33) = false := by rw [HK.out]; rfl
      have q38 : (e.kind == 38) = false := by rw [HK.out]; rfl
      have q32 : (e.kind == 32) = false := by rw [HK.out]; rfl
      have q34 : (e.kind == 34) = false := by rw [HK.out]; rfl
      have q9 : (e.kind == 9) = false := by rw [HK.out]; rfl
      have q18 : (e.kind == 18) = false := by rw [HK.out]; rfl
      have q25 : (e.kind == 25) = false := by rw [HK.out]; rfl
      have q37 : (e.kind == 37) = false := by rw [HK.out]; rfl
      have q22 : (e.kind == 22) = false := by rw [HK.out]; rfl
      have q23 : (e.kind == 23) = false := by rw [HK.out]; rfl
      have q35 : (e.kind == 35) = true := by rw [HK.out]; rfl
      go_wp2_with fail
      refine (KF.out _).mono ?_
      rintro e1 w1 ⟨⟨b1, rfl, hb⟩, hb1⟩
      have HB1 := Lib.hid (HQ.out.trans (hb1.mono HQ.out.size))
      have HP : Hid (b1 = true → BareP e) := Lib.hid (fun h => field_of HK.out (hb h))
      clear hb hb1
      go_wp2_with fail
      go_ret
      exact BPost.ret rfl HP.out HB1.out
    have HPL := Lib.hid (bare_plain (e := e) (by omega))
    have q4 : (e.kind == 4) = false := by simpa using k4
    have q5 : (e.kind == 5) = false := by simpa using k5
    have q26 : (e.kind == 26) = false := by simpa using k26
    have q27 : (e.kind == 27) = false := by simpa using k27
    have q28 : (e.kind == 28) = false := by simpa using k28
    have q8 : (e.kind == 8) = false := by simpa using k8
    have q16 : (e.kind == 16) = false := by simpa using k16
    have q33 : (e.kind == 33) = false := by simpa using k33
    have q38 : (e.kind == 38) = false := by simpa using k38
    have q32 : (e.kind == 32) = false := by simpa using k32
    have q34 : (e.kind == 34) = false := by simpa using k34
    have q9 : (e.kind == 9) = false := by simpa using k9
    have q18 : (e.kind == 18) = false := by simpa using k18
    have q25 : (e.kind == 25) = false := by simpa using k25
    have q37 : (e.kind == 37) = false := by simpa using k37
    have q22 : (e.kind == 22) = false := by simpa using k22
    have q23 : (e.kind == 23) = false := by simpa using k23
    have q35 : (e.kind == 35) = false := by simpa using k35
    clear k4 k5 k26 k27 k28 k8 k16 k33 k38 k32 k34 k9 k18 k25 k37 k22 k23 k35
    generalize e.kind = ek at *
    go_wp2_with fail
    go_meet
    exact Lib.hid (brI (fun _ _ => HPL.out) HQ.out)
  case rest =>
    obtain ⟨b3, b4, b5, rfl, rfl, rfl, hP, hb⟩ := hcut.out
    have HP := Lib.hid hP
    have HB := Lib.hid hb
    clear hP hb hcut
    cases b3 <;> cases b4 <;> cases b5
    all_goals
      go_wp2_with fail
      go_ret
      first
        | exact BPost.ret rfl (fun _ => HP.out (by trivial) (by trivial)) HB.out
        | exact BPost.ret rfl (fun h => nomatch h) HB.out
end Go.Proofs.Ytdhhdnopilfifaa
