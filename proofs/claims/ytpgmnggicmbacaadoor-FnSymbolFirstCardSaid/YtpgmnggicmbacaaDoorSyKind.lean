/-
  laws.kindOf, textOf, isIn9 at the tokens that FnSymbolFirst meets.
-/
import Derived.Test.YtpgmnggicmbacaaDoorSyData
namespace Go.Proofs.YtpgmnggicmbacaaDoor
open Go.Shelf Go.RowKit
set_option linter.unusedVariables false
set_option linter.unusedSimpArgs false

theorem str_beq (a b : ByteArray) : (a.toList == b.toList) = decide (a = b) := by
  rw [ByteArray.toList_eq, ByteArray.toList_eq]
  by_cases h : a = b
  · subst h; simp
  · have : a.data.toList ≠ b.data.toList := fun e => h (WideShapes.bytes_inj e)
    rw [decide_eq_false h]
    exact beq_eq_false_iff_ne.2 this
theorem dollar_beq (a : ByteArray) : (a.toList == [36]) = decide (a = dollarT) := by
  have h := str_beq a dollarT
  rwa [show dollarT.toList = [36] by simp [dollarT]] at h
theorem empty_beq (a : ByteArray) : (a.toList == []) = decide (a.size = 0) := by
  have h := str_beq a ⟨#[]⟩
  rw [show (⟨#[]⟩ : ByteArray).toList = [] by simp] at h
  rw [h]
  congr 1
  apply propext
  constructor
  · intro e
    rw [e]
    rfl
  · intro e
    apply WideShapes.bytes_inj
    have : a.data.toList.length = 0 := by simpa using e
    rw [List.length_eq_zero_iff.1 this]
def AnsI (v : Value) (w : World) (e : Ending) (w' : World) : Prop := e = .returned v ∧ Below w.heap.size w w'
set_option maxRecDepth 100000 in
theorem kindOf_block (tx vl : ByteArray) (fr tq : Int) (w : World) : Calls Tryd.prog 16 #[.agg #[.int .i64 4, .int .i64 5, .string tx, .string vl, .int .i64 fr, .int .i64 tq]] w (AnsI (.int .i64 13) w) := by
  go_enter Tryd.func16, Tryd.ntmps16
  go_wp2_with fail
  go_ret
  exact ⟨rfl, below_allocS (below_alloc1 _ _) _⟩
set_option maxRecDepth 100000 in
theorem kindOf_op (tx vl : ByteArray) (fm fr tq : Int) (w : World) : Calls Tryd.prog 16 #[.agg #[.int .i64 6, .int .i64 fm, .string tx, .string vl, .int .i64 fr, .int .i64 tq]] w (AnsI (.int .i64 (if tx = dollarT then 5 else 12)) w) := by
  have hq := dollar_beq tx
  by_cases h : tx = dollarT
  · rw [if_pos h]
    rw [decide_eq_true h] at hq
    clear h
    go_enter Tryd.func16, Tryd.ntmps16
    go_wp2_with fail
    go_ret
    exact ⟨rfl, below_alloc1 _ _⟩
  · rw [if_neg h]
    rw [decide_eq_false h] at hq
    clear h
    go_enter Tryd.func16, Tryd.ntmps16
    go_wp2_with fail
    go_ret
    exact ⟨rfl, below_alloc1 _ _⟩
set_option maxRecDepth 100000 in
theorem textOf_block (tx vl : ByteArray) (fr tq : Int) (w : World) : Calls Tryd.prog 17 #[.agg #[.int .i64 4, .int .i64 5, .string tx, .string vl, .int .i64 fr, .int .i64 tq]] w (AnsI (.string vl) w) := by
  go_enter Tryd.func17, Tryd.ntmps17
  go_wp2_with fail
  go_ret
  exact ⟨rfl, below_alloc1 _ _⟩
set_option maxRecDepth 100000 in
theorem textOf_op (tx vl : ByteArray) (fm fr tq : Int) (w : World) : Calls Tryd.prog 17 #[.agg #[.int .i64 6, .int .i64 fm, .string tx, .string vl, .int .i64 fr, .int .i64 tq]] w (AnsI (.string tx) w) := by
  go_enter Tryd.func17, Tryd.ntmps17
  go_wp2_with fail
  go_ret
  exact ⟨rfl, below_alloc1 _ _⟩
def symT : ByteArray := ⟨#[33, 36, 58, 126, 43, 45, 38, 124, 94, 61, 60, 62, 42, 47, 37]⟩
theorem symT_at {j : Nat} (hj : j < 15) : by_ symT j = syN j := by
  have key : ∀ j : Fin 15, by_ symT j.val = syN j.val := by
    intro j
    match j with
    | ⟨0, _⟩ | ⟨1, _⟩ | ⟨2, _⟩ | ⟨3, _⟩ | ⟨4, _⟩ | ⟨5, _⟩ | ⟨6, _⟩ | ⟨7, _⟩ | ⟨8, _⟩ | ⟨9, _⟩ | ⟨10, _⟩ | ⟨11, _⟩ | ⟨12, _⟩ | ⟨13, _⟩ | ⟨14, _⟩ => rfl
  exact key ⟨j, hj⟩
theorem symT_has (c : Nat) : hasQ symT c = opB c := by
  cases h : hasQ symT c
  · refine (syN_no fun j hj e => ?_).symm
    unfold hasQ hasUp at h
    rw [List.any_eq_false] at h
    refine h j (by rw [List.mem_range]; exact hj) ?_
    rw [symT_at hj, e]
    simp
  · unfold hasQ hasUp at h
    rw [List.any_eq_true] at h
    obtain ⟨j, hj, e⟩ := h
    have hj2 : j < 15 := by rw [List.mem_range] at hj; exact hj
    rw [symT_at hj2] at e
    exact (syN_yes hj2 (by simpa using e)).symm
set_option maxRecDepth 100000 in
theorem isIn9_any (s : ByteArray) (w : World) : Calls Tryd.prog 14 #[.string s, .string symT] w fun e w' => e = .returned (.bool (decide (0 < s.size) && opB (by_ s 0))) ∧ w = w' := by
  have hq := empty_beq s
  by_cases h : s.size = 0
  · rw [decide_eq_true h] at hq
    have hz : ¬ 0 < s.size := by omega
    rw [decide_eq_false hz, Bool.false_and]
    clear h hz
    go_enter Tryd.func14, Tryd.ntmps14
    go_wp2_with fail
    go_ret
    exact ⟨rfl, rfl⟩
  · rw [decide_eq_false h] at hq
    have h0 : 0 < s.size := by omega
    have hd := by_eq h0
    rw [decide_eq_true h0, Bool.true_and, ← symT_has, ← hd]
    clear h hd
    go_enter Tryd.func14, Tryd.ntmps14
    go_wp2_with fail
    refine (hasByte_any symT (s[0]'h0).toNat (show (15 : Nat) ≤ _ by omega) _).mono ?_
    rintro e1 w1 ⟨rfl, rfl⟩
    go_wp2_with fail
    go_ret
    exact ⟨rfl, rfl⟩
end Go.Proofs.YtpgmnggicmbacaaDoor
