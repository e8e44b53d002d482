/-
  fieldBare, bare: what the fields of a node hold. (Printed by wip/gen_bare.py.)
-/
import Derived.Test.YtdhhdnopilfifaaPrShaped
import Derived.Test.YtdhhdnopilfifaaPrNum
namespace Go.Proofs.Ytdhhdnopilfifaa
open Go.RowKit

def FieldB (fl op : Int) : Prop := FlagF fl ∧ 0 ≤ op ∧ op ≤ 2
def boxN (e : ND) : Obj := .cells (cellsA e) 26
theorem box_facts (e : ND) (w : World) : ∃ W1, w.alloc (.cells #[.int .i64 e.kind, .int .i64 e.op, .string e.text, .int .i64 e.flag, .int .i64 e.size] 26) = W1 ∧ Below w.heap.size w W1 ∧ w.heap.size < W1.heap.size ∧
    W1.cell? ⟨w.heap.size, 0, none⟩ = some (.int .i64 e.kind) ∧ W1.cell? ⟨w.heap.size, 1, none⟩ = some (.int .i64 e.op) ∧ W1.cell? ⟨w.heap.size, 2, none⟩ = some (.string e.text) ∧ W1.cell? ⟨w.heap.size, 3, none⟩ = some (.int .i64 e.flag) ∧ W1.cell? ⟨w.heap.size, 4, none⟩ = some (.int .i64 e.size) := by
  have hb := Blk.new w 26 #[.int .i64 e.kind, .int .i64 e.op, .string e.text, .int .i64 e.flag, .int .i64 e.size]
  exact ⟨_, rfl, belowS_alloc (Below.refl _ _) _, hb.lt, hb.cell 0, hb.cell 1, hb.cell 2, hb.cell 3, hb.cell 4⟩
theorem bare_plain {e : ND} (h : e.kind ≠ 9 ∧ e.kind ≠ 18 ∧ e.kind ≠ 25 ∧ e.kind ≠ 37 ∧ e.kind ≠ 32 ∧ e.kind ≠ 22 ∧ e.kind ≠ 23 ∧ e.kind ≠ 35) : BareP e :=
  ⟨fun g => by exfalso; omega, fun g => by exfalso; omega, fun g => by exfalso; omega, fun g => by exfalso; omega⟩
theorem bare_flag {e : ND} (hk : e.kind = 9 ∨ e.kind = 18 ∨ e.kind = 25 ∨ e.kind = 37 ∨ e.kind = 32) (hf : e.flag = 0 ∨ e.flag = 1) : BareP e :=
  ⟨fun _ => hf, fun g => by exfalso; omega, fun g => by exfalso; omega, fun g => by exfalso; omega⟩
set_option maxRecDepth 100000 in
set_option maxHeartbeats 6400000 in
theorem fieldBare_any (e : ND) (ht : e.text.size ≤ 2147483647) (w : World)  : Calls Try.prog 27 #[.agg #[.int .i64 e.kind, .int .i64 e.op, .string e.text, .int .i64 e.flag, .int .i64 e.size]] w (BPost (FieldB e.flag e.op) w) := by
  obtain ⟨W1, hW1, hb0, hs0, x0, x1, x2, x3, x4⟩ := box_facts e w
  have HB0 := Lib.hid hb0
  clear hb0
  have KI := Lib.hid (fun (w' : World) => Identifier_any e.text (by unfold maxLen; omega) w')
  have KP := Lib.hid (fun (w' : World) => Points_any e.text ht w')
  have HE := Lib.hid (rfl : e = e)
  by_cases hfr : 0 ≤ e.flag ∧ e.flag ≤ 15
  · have hcase : e.flag = 0 ∨ e.flag = 1 ∨ e.flag = 2 ∨ e.flag = 3 ∨ e.flag = 4 ∨ e.flag = 5 ∨ e.flag = 6 ∨ e.flag = 7 ∨ e.flag = 8 ∨ e.flag = 9 ∨ e.flag = 10 ∨ e.flag = 11 ∨ e.flag = 12 ∨ e.flag = 13 ∨ e.flag = 14 ∨ e.flag = 15 := by omega
    clear hfr
    by_cases ho1 : e.op < 0
    · generalize e.op = op at *
      rcases hcase with hf | hf | hf | hf | hf | hf | hf | hf | hf | hf | hf | hf | hf | hf | hf | hf
      all_goals
        rw [hf] at x3 hW1 ⊢
        clear hf
        go_enter Try.func27, Try.ntmps27
        go_wp2_with fail
        go_ret
        exact BPost.ret rfl (fun h => by cases h) HB0.out
    · by_cases ho2 : 2 < e.op
      · generalize e.op = op at *
        rcases hcase with hf | hf | hf | hf | hf | hf | hf | hf | hf | hf | hf | hf | hf | hf | hf | hf
        all_goals
          rw [hf] at x3 hW1 ⊢
          clear hf
          go_enter Try.func27, Try.ntmps27
          go_wp2_with fail
          go_ret
          exact BPost.ret rfl (fun h => by cases h) HB0.out
      · have HO := Lib.hid (show 0 ≤ e.op ∧ e.op ≤ 2 by omega)
        generalize e.op = op at *
        generalize e.text = tx at *
        rcases hcase with hf | hf | hf | hf | hf | hf | hf | hf | hf | hf | hf | hf | hf | hf | hf | hf
        · rw [hf] at x3 hW1 ⊢
          clear hf
          go_enter Try.func27, Try.ntmps27
          go_wp2_with fail
          refine (KI.out _).mono ?_
          rintro e1 w1 ⟨⟨b1, rfl⟩, hb1⟩
          have HB1 := Lib.hid (HB0.out.trans (hb1.mono HB0.out.size))
          clear hb1
          go_wp2_with fail
          go_ret
          exact BPost.ret rfl (fun _ => ⟨by unfold FlagF; decide, HO.out⟩) HB1.out
        · rw [hf] at x3 hW1 ⊢
          clear hf
          go_enter Try.func27, Try.ntmps27
          go_wp2_with fail
          refine (KP.out _).mono ?_
          rintro e1 w1 ⟨⟨b1, rfl⟩, hb1⟩
          have HB1 := Lib.hid (HB0.out.trans (hb1.mono HB0.out.size))
          clear hb1
          go_wp2_with fail
          go_ret
          exact BPost.ret rfl (fun _ => ⟨by unfold FlagF; decide, HO.out⟩) HB1.out
        · rw [hf] at x3 hW1 ⊢
          clear hf
          go_enter Try.func27, Try.ntmps27
          go_wp2_with fail
          go_ret
          exact BPost.ret rfl (fun _ => ⟨by unfold FlagF; decide, HO.out⟩) HB0.out
        · rw [hf] at x3 hW1 ⊢
          clear hf
          go_enter Try.func27, Try.ntmps27
          go_wp2_with fail
          go_ret
          exact BPost.ret rfl (fun h => by cases h) HB0.out
        · rw [hf] at x3 hW1 ⊢
          clear hf
          go_enter Try.func27, Try.ntmps27
          go_wp2_with fail
          refine (KI.out _).mono ?_
          rintro e1 w1 ⟨⟨b1, rfl⟩, hb1⟩
          have HB1 := Lib.hid (HB0.out.trans (hb1.mono HB0.out.size))
          clear hb1
          go_wp2_with fail
          go_ret
          exact BPost.ret rfl (fun _ => ⟨by unfold FlagF; decide, HO.out⟩) HB1.out
        · rw [hf] at x3 hW1 ⊢
          clear hf
          go_enter Try.func27, Try.ntmps27
          go_wp2_with fail
          refine (KP.out _).mono ?_
          rintro e1 w1 ⟨⟨b1, rfl⟩, hb1⟩
          have HB1 := Lib.hid (HB0.out.trans (hb1.mono HB0.out.size))
          clear hb1
          go_wp2_with fail
          go_ret
          exact BPost.ret rfl (fun _ => ⟨by unfold FlagF; decide, HO.out⟩) HB1.out
        · rw [hf] at x3 hW1 ⊢
          clear hf
          go_enter Try.func27, Try.ntmps27
          go_wp2_with fail
          go_ret
          exact BPost.ret rfl (fun _ => ⟨by unfold FlagF; decide, HO.out⟩) HB0.out
        · rw [hf] at x3 hW1 ⊢
          clear hf
          go_enter Try.func27, Try.ntmps27
          go_wp2_with fail
          go_ret
          exact BPost.ret rfl (fun h => by cases h) HB0.out
        · rw [hf] at x3 hW1 ⊢
          clear hf
          go_enter Try.func27, Try.ntmps27
          go_wp2_with fail
          refine (KI.out _).mono ?_
          rintro e1 w1 ⟨⟨b1, rfl⟩, hb1⟩
          have HB1 := Lib.hid (HB0.out.trans (hb1.mono HB0.out.size))
          clear hb1
          go_wp2_with fail
          go_ret
          exact BPost.ret rfl (fun _ => ⟨by unfold FlagF; decide, HO.out⟩) HB1.out
        · rw [hf] at x3 hW1 ⊢
          clear hf
          go_enter Try.func27, Try.ntmps27
          go_wp2_with fail
          refine (KP.out _).mono ?_
          rintro e1 w1 ⟨⟨b1, rfl⟩, hb1⟩
          have HB1 := Lib.hid (HB0.out.trans (hb1.mono HB0.out.size))
          clear hb1
          go_wp2_with fail
          go_ret
          exact BPost.ret rfl (fun _ => ⟨by unfold FlagF; decide, HO.out⟩) HB1.out
        · rw [hf] at x3 hW1 ⊢
          clear hf
          go_enter Try.func27, Try.ntmps27
          go_wp2_with fail
          go_ret
          exact BPost.ret rfl (fun _ => ⟨by unfold FlagF; decide, HO.out⟩) HB0.out
        · rw [hf] at x3 hW1 ⊢
          clear hf
          go_enter Try.func27, Try.ntmps27
          go_wp2_with fail
          go_ret
          exact BPost.ret rfl (fun h => by cases h) HB0.out
        · rw [hf] at x3 hW1 ⊢
          clear hf
          go_enter Try.func27, Try.ntmps27
          go_wp2_with fail
          go_ret
          exact BPost.ret rfl (fun h => by cases h) HB0.out
        · rw [hf] at x3 hW1 ⊢
          clear hf
          go_enter Try.func27, Try.ntmps27
          go_wp2_with fail
          go_ret
          exact BPost.ret rfl (fun h => by cases h) HB0.out
        · rw [hf] at x3 hW1 ⊢
          clear hf
          go_enter Try.func27, Try.ntmps27
          go_wp2_with fail
          go_ret
          exact BPost.ret rfl (fun h => by cases h) HB0.out
        · rw [hf] at x3 hW1 ⊢
          clear hf
          go_enter Try.func27, Try.ntmps27
          go_wp2_with fail
          go_ret
          exact BPost.ret rfl (fun h => by cases h) HB0.out
  · by_cases hf1 : e.flag < 0
    · clear hfr
      generalize e.flag = fl at *
      go_enter Try.func27, Try.ntmps27
      go_wp2_with fail
      go_ret
      exact BPost.ret rfl (fun h => by cases h) HB0.out
    · have hf2 : 15 < e.flag := by omega
      clear hfr
      generalize e.flag = fl at *
      go_enter Try.func27, Try.ntmps27
      go_wp2_with fail
      go_ret
      exact BPost.ret rfl (fun h => by cases h) HB0.out
end Go.Proofs.Ytdhhdnopilfifaa
