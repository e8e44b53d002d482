/-
  parser.first; impl.symbol.
-/
import Derived.Test.YtpgmnggicmbacaaDoorSySym
import Derived.Lib.SlBytesConst
namespace Go.Proofs.YtpgmnggicmbacaaDoor
open Go.Shelf Go.RowKit
set_option linter.unusedVariables false
set_option linter.unusedSimpArgs false

/-- What first answers. -/
def FsPost (k : Int) (d : ByteArray) (err : Value) (w : World) (e : Ending) (w' : World) : Prop := e = .returned (.tuple #[.agg #[.int .i64 k, .string d], err]) ∧ Below w.heap.size w w'
set_option maxRecDepth 100000 in
theorem first_err (b : Nat) (t : TypeId) (v : Value) (w : World) : Calls Tryd.prog 43 #[.pointer (some ⟨b, 0, none⟩), .iface t v] w (FsPost (-1) ⟨#[]⟩ (.iface t v) w) := by
  go_enter Tryd.func43, Tryd.ntmps43
  go_wp2_with fail
  refine bodyPost_ret (v := .tuple #[.agg #[.int .i64 (-1), .string ⟨#[]⟩], .iface t v]) ?_ rfl ⟨rfl, below_alloc1 _ _⟩
  simp [results, Tryd.results43, go_sem]
set_option maxRecDepth 100000 in
theorem first_none (b : Nat) (w : World) (h : w.cell? ⟨b, 4, none⟩ = some (.slice none 0 0)) : Calls Tryd.prog 43 #[.pointer (some ⟨b, 0, none⟩), .nilIface] w (FsPost (-1) ⟨#[]⟩ .nilIface w) := by
  have hl := World.block_lt_of_cell? w _ h
  have h2 : (w.alloc (.cells #[.int .i64 0, .string ⟨#[]⟩] 60)).cell? ⟨b, 4, none⟩ = some (.slice none 0 0) := ((below_alloc1 w _).cell hl).trans h
  go_enter Tryd.func43, Tryd.ntmps43
  go_wp2_with fail
  refine bodyPost_ret (v := .tuple #[.agg #[.int .i64 (-1), .string ⟨#[]⟩], .nilIface]) ?_ rfl ⟨rfl, below_alloc1 _ _⟩
  simp [results, Tryd.results43, go_sem]
theorem far_two {W : World} {n : Nat} {x y : Value} {p : Addr} {u : Value} (h : W.cell? p = some u) (hn : n ≠ p.block) : ((W.setCell ⟨n, 0, none⟩ x).setCell ⟨n, 1, none⟩ y).drew.cell? p = some u := by
  show ((W.setCell ⟨n, 0, none⟩ x).setCell ⟨n, 1, none⟩ y).cell? p = some u
  rw [World.cell?_setCell_far _ _ _ _ hn, World.cell?_setCell_far _ _ _ _ hn]
  exact h
set_option maxRecDepth 100000 in
set_option maxHeartbeats 1600000 in
theorem first_tok (b : Nat) (w : World) (k : Int) (d : ByteArray) (h : Tok1 b w k d) : Calls Tryd.prog 43 #[.pointer (some ⟨b, 0, none⟩), .nilIface] w (FsPost k d .nilIface w) := by
  obtain ⟨g, cap, h4, h1, h10⟩ := h
  have HB0 := Lib.hid (below_alloc1 w (.cells #[.int .i64 0, .string ⟨#[]⟩] 60))
  have hbw := World.block_lt_of_cell? w _ h4
  have hgw := World.block_lt_of_cell? w _ h1
  have c4 := (HB0.out.cell hbw).trans h4
  have c1 := (HB0.out.cell hgw).trans h1
  have c10 := (HB0.out.cell (p := ⟨g, 10, none⟩) hgw).trans h10
  have hB : Blk (w.alloc (.cells #[.int .i64 0, .string ⟨#[]⟩] 60)) w.heap.size 60 #[.int .i64 0, .string ⟨#[]⟩] := heap_alloc_new w _
  have HB := Lib.hid hB
  obtain ⟨W, hW⟩ : ∃ W, w.alloc (.cells #[.int .i64 0, .string ⟨#[]⟩] 60) = W := ⟨_, rfl⟩
  rw [hW] at c4 c1 c10 HB HB0
  have t0 := HB.out.cell 0
  have t1 := HB.out.cell 1
  have f0 := HB.out.frozen 0
  have f1 := HB.out.frozen 1
  simp only [List.getElem?_toArray, List.getElem?_cons_zero, List.getElem?_cons_succ] at t0 t1
  have nb : b ≠ w.heap.size := by have : b < w.heap.size := hbw; omega
  have ng : g ≠ w.heap.size := by have : g < w.heap.size := hgw; omega
  clear hB h4 h1 h10 hbw hgw
  go_enter Tryd.func43, Tryd.ntmps43
  go_wp2_with (rw [hW])
  go_region_held3 (fun w' => w'.cell? ⟨b, 4, none⟩ = some (.slice (some ⟨g, 0, none⟩) 1 cap) ∧ w'.cell? ⟨g, 1, none⟩ = some (.string d) ∧ w'.cell? ⟨g, 10, none⟩ = some (.int .i64 k))
    (first | (exact ⟨far_two c4 (Ne.symm nb), far_two c1 (Ne.symm ng), far_two c10 (Ne.symm ng)⟩) | go_keep)
    (fail)
  have HP := Lib.hid (((HB.out.set_ 0 (.int .i64 k)).set_ 1 (.string d)).drew)
  have g0 := HP.out.cell 0
  have g1 := HP.out.cell 1
  simp at g0 g1
  go_wp2_with fail
  refine bodyPost_ret (v := .tuple #[.agg #[.int .i64 k, .string d], .nilIface]) ?_ rfl ⟨rfl, ((HB0.out.setCell (p := ⟨w.heap.size, 0, none⟩) (Nat.le_refl _) _).setCell (p := ⟨w.heap.size, 1, none⟩) (Nat.le_refl _) _).drew⟩
  simp [results, Tryd.results43, go_sem, g0, g1]
/-- The symbols. -/
def syN (j : Nat) : Nat := [33, 36, 58, 126, 43, 45, 38, 124, 94, 61, 60, 62, 42, 47, 37].getD j 0
theorem syN_yes {j c : Nat} (hj : j < 15) (h : syN j = c) : opB c = true := by
  subst h
  unfold opB
  rw [List.contains_iff_mem]
  unfold syN
  rw [List.getD_eq_getElem?_getD, List.getElem?_eq_getElem (by simpa using hj)]
  exact List.getElem_mem _
theorem syN_no {c : Nat} (h : ∀ j, j < 15 → syN j ≠ c) : opB c = false := by
  cases ho : opB c
  · rfl
  · exfalso
    unfold opB at ho
    rw [List.contains_iff_mem] at ho
    obtain ⟨j, hj, e⟩ := List.getElem_of_mem ho
    refine h j (by simpa using hj) ?_
    unfold syN
    rw [List.getD_eq_getElem?_getD, List.getElem?_eq_getElem hj]
    exact e
theorem syN_lt {j : Nat} (hj : j < 15) : syN j < 256 := by
  obtain ⟨h, -, -⟩ := opB_low (syN_yes hj rfl)
  omega
def syRow : Array Value := #[.int .u8 33, .int .u8 36, .int .u8 58, .int .u8 126, .int .u8 43, .int .u8 45, .int .u8 38, .int .u8 124, .int .u8 94, .int .u8 61, .int .u8 60, .int .u8 62, .int .u8 42, .int .u8 47, .int .u8 37]
theorem syRow_at {j : Nat} (hj : j < 15) : syRow[j]? = some (.int .u8 (syN j : Int)) := by
  have key : ∀ j : Fin 15, syRow[j.val]? = some (.int .u8 (syN j.val : Int)) := by
    intro j
    match j with
    | ⟨0, _⟩ | ⟨1, _⟩ | ⟨2, _⟩ | ⟨3, _⟩ | ⟨4, _⟩ | ⟨5, _⟩ | ⟨6, _⟩ | ⟨7, _⟩ | ⟨8, _⟩ | ⟨9, _⟩ | ⟨10, _⟩ | ⟨11, _⟩ | ⟨12, _⟩ | ⟨13, _⟩ | ⟨14, _⟩ => rfl
  exact key ⟨j, hj⟩
set_option maxRecDepth 100000 in
set_option maxHeartbeats 1600000 in
theorem symbol_any (c : Nat) (w : World) : Calls Tryd.prog 25 #[.int .u8 c] w fun e w' => e = .returned (.bool (opB c)) ∧ Below w.heap.size w w' := by
  have hcell : ∀ j, j < 15 → (w.alloc (.cells syRow 5 (15, 16))).cell? ⟨w.heap.size, j, none⟩ = some (.int .u8 (syN j : Int)) := fun j hj => by
    have hh := heap_alloc_new w (.cells syRow 5 (15, 16))
    unfold World.cell?
    simp only [hh]
    exact syRow_at hj
  have kc := Lib.run_convert_bytes_const (P := Tryd.prog) w 54 5 syRow 15 15 Tryd.underlying54 Tryd.underlying5
  have hb := below_alloc1 w (.cells syRow 5 (15, 16))
  rw [show syRow.size = 15 from rfl] at kc
  unfold syRow at hcell kc hb
  have HC := Lib.hid hcell
  have HB := Lib.hid hb
  clear hcell hb
  go_enter Tryd.func25, Tryd.ntmps25
  go_wp2_with (simp only [kc])
  clear kc
  generalize w.alloc _ = W at HC HB ⊢
  go_loopw [8] (fun t wr => ∃ j : Nat, t = .int .i64 j ∧ j ≤ 15 ∧ Hid (∀ i, i < j → syN i ≠ c) ∧ W = wr) (fun t _ => 15 - (intOf t).toNat)
  case atStart => exact ⟨0, rfl, by omega, Lib.hid (fun i hi => absurd hi (by omega)), by trivial⟩
  case round =>
    obtain ⟨j, rfl, hj, HJ, rfl⟩ := hrel
    by_cases hlt : j < 15
    · have cj := HC.out j hlt
      have k0 : (0 : Int) ≤ (j : Int) := by omega
      have k1 : (j : Int) < 15 := by omega
      by_cases he : syN j = c
      · have q : ((syN j : Int) == (c : Int)) = true := by rw [he]; simp
        have HE := Lib.hid (syN_yes hlt he)
        clear he
        go_wp2_with fail
        go_ret
        exact ⟨by rw [HE.out]; rfl, HB.out⟩
      · have q : ((syN j : Int) == (c : Int)) = false := by rw [beq_eq_false_iff_ne]; omega
        have HN := Lib.hid (show ∀ i, i < j + 1 → syN i ≠ c from fun i hi => by
          rcases Nat.lt_or_ge i j with g | g
          · exact HJ.out i g
          · obtain rfl : i = j := by omega
            exact he)
        clear he
        go_wp2_with fail
        go_roundw
        case rel => exact ⟨j + 1, by go_num, by omega, HN, by trivial⟩
        case measure => simp [intOf]; omega
    · obtain rfl : j = 15 := by omega
      have HE := Lib.hid (syN_no HJ.out)
      go_wp2_with fail
      go_ret
      exact ⟨by rw [HE.out]; rfl, HB.out⟩
end Go.Proofs.YtpgmnggicmbacaaDoor
