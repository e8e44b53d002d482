/-
  Operators and precedences. (Printed by wip/gen_prec.py.)
-/
import Derived.Test.YtdhhdnopilfifaaPrBKids
namespace Go.Proofs.Ytdhhdnopilfifaa
open Go.RowKit

def bops : List Int := [0, 0, 1, 2, 3, 4, 5, 6, 9, 10, 7, 8, 11, 12, 13, 14, 15, 16, 17, 18]
/-- The package's number of an operator. -/
def bopI (op : Int) : Int := bops.getD op.toNat 0
def precs : List Int := [5, 5, 5, 6, 6, 7, 7, 8, 8, 8, 8, 8, 9, 9, 10, 11, 12, 13, 14]
def precB (x : Int) : Int := precs.getD x.toNat 0
def BoPost (op : Int) (w : World) (e : Ending) (w' : World) : Prop := e = .returned (.tuple #[.int .i64 (bopI op), .bool true]) ∧ Below w.heap.size w w'
theorem binaries_any (w : World) : Calls Try.prog 65 #[] w (fun e w' => e = .returned (.slice (some ⟨w.heap.size, 0, none⟩) 20 20) ∧ w' = w.alloc (.cells #[.int .i64 0, .int .i64 0, .int .i64 1, .int .i64 2, .int .i64 3, .int .i64 4, .int .i64 5, .int .i64 6, .int .i64 9, .int .i64 10, .int .i64 7, .int .i64 8, .int .i64 11, .int .i64 12, .int .i64 13, .int .i64 14, .int .i64 15, .int .i64 16, .int .i64 17, .int .i64 18] 66)) := by
  go_enter Try.func65, Try.ntmps65
  go_wp2_with fail
  go_ret
  exact ⟨rfl, rfl⟩
theorem op_split (op : Int) (h : 1 ≤ op ∧ op ≤ 19) : op = 1 ∨ op = 2 ∨ op = 3 ∨ op = 4 ∨ op = 5 ∨ op = 6 ∨ op = 7 ∨ op = 8 ∨ op = 9 ∨ op = 10 ∨ op = 11 ∨ op = 12 ∨ op = 13 ∨ op = 14 ∨ op = 15 ∨ op = 16 ∨ op = 17 ∨ op = 18 ∨ op = 19 := by omega
set_option maxRecDepth 100000 in
set_option maxHeartbeats 3200000 in
theorem binaryOp_any (op : Int) (w : World) (h : 1 ≤ op ∧ op ≤ 19) : Calls Try.prog 57 #[.int .i64 op] w (BoPost op w) := by
  have hb := Blk.new w 66 #[.int .i64 0, .int .i64 0, .int .i64 1, .int .i64 2, .int .i64 3, .int .i64 4, .int .i64 5, .int .i64 6, .int .i64 9, .int .i64 10, .int .i64 7, .int .i64 8, .int .i64 11, .int .i64 12, .int .i64 13, .int .i64 14, .int .i64 15, .int .i64 16, .int .i64 17, .int .i64 18]
  have HB0 := Lib.hid (show Below w.heap.size w (w.alloc (.cells #[.int .i64 0, .int .i64 0, .int .i64 1, .int .i64 2, .int .i64 3, .int .i64 4, .int .i64 5, .int .i64 6, .int .i64 9, .int .i64 10, .int .i64 7, .int .i64 8, .int .i64 11, .int .i64 12, .int .i64 13, .int .i64 14, .int .i64 15, .int .i64 16, .int .i64 17, .int .i64 18] 66)) from belowS_alloc (Below.refl _ _) _)
  have HBK := Lib.hid hb
  have K := Lib.hid (binaries_any w)
  clear hb
  rcases op_split op h with rfl | rfl | rfl | rfl | rfl | rfl | rfl | rfl | rfl | rfl | rfl | rfl | rfl | rfl | rfl | rfl | rfl | rfl | rfl
  · have c := HBK.out.cell 1
    simp only [List.getElem?_toArray, List.getElem?_cons_zero, List.getElem?_cons_succ] at c
    go_enter Try.func57, Try.ntmps57
    go_wp2_with fail
    refine K.out.mono ?_
    rintro e1 w1 ⟨rfl, rfl⟩
    go_wp2_with fail
    go_ret2
    exact ⟨rfl, HB0.out⟩
  · have c := HBK.out.cell 2
    simp only [List.getElem?_toArray, List.getElem?_cons_zero, List.getElem?_cons_succ] at c
    go_enter Try.func57, Try.ntmps57
    go_wp2_with fail
    refine K.out.mono ?_
    rintro e1 w1 ⟨rfl, rfl⟩
    go_wp2_with fail
    go_ret2
    exact ⟨rfl, HB0.out⟩
  · have c := HBK.out.cell 3
    simp only [List.getElem?_toArray, List.getElem?_cons_zero, List.getElem?_cons_succ] at c
    go_enter Try.func57, Try.ntmps57
    go_wp2_with fail
    refine K.out.mono ?_
    rintro e1 w1 ⟨rfl, rfl⟩
    go_wp2_with fail
    go_ret2
    exact ⟨rfl, HB0.out⟩
  · have c := HBK.out.cell 4
    simp only [List.getElem?_toArray, List.getElem?_cons_zero, List.getElem?_cons_succ] at c
    go_enter Try.func57, Try.ntmps57
    go_wp2_with fail
    refine K.out.mono ?_
    rintro e1 w1 ⟨rfl, rfl⟩
    go_wp2_with fail
    go_ret2
    exact ⟨rfl, HB0.out⟩
  · have c := HBK.out.cell 5
    simp only [List.getElem?_toArray, List.getElem?_cons_zero, List.getElem?_cons_succ] at c
    go_enter Try.func57, Try.ntmps57
    go_wp2_with fail
    refine K.out.mono ?_
    rintro e1 w1 ⟨rfl, rfl⟩
    go_wp2_with fail
    go_ret2
    exact ⟨rfl, HB0.out⟩
  · have c := HBK.out.cell 6
    simp only [List.getElem?_toArray, List.getElem?_cons_zero, List.getElem?_cons_succ] at c
    go_enter Try.func57, Try.ntmps57
    go_wp2_with fail
    refine K.out.mono ?_
    rintro e1 w1 ⟨rfl, rfl⟩
    go_wp2_with fail
    go_ret2
    exact ⟨rfl, HB0.out⟩
  · have c := HBK.out.cell 7
    simp only [List.getElem?_toArray, List.getElem?_cons_zero, List.getElem?_cons_succ] at c
    go_enter Try.func57, Try.ntmps57
    go_wp2_with fail
    refine K.out.mono ?_
    rintro e1 w1 ⟨rfl, rfl⟩
    go_wp2_with fail
    go_ret2
    exact ⟨rfl, HB0.out⟩
  · have c := HBK.out.cell 8
    simp only [List.getElem?_toArray, List.getElem?_cons_zero, List.getElem?_cons_succ] at c
    go_enter Try.func57, Try.ntmps57
    go_wp2_with fail
    refine K.out.mono ?_
    rintro e1 w1 ⟨rfl, rfl⟩
    go_wp2_with fail
    go_ret2
    exact ⟨rfl, HB0.out⟩
  · have c := HBK.out.cell 9
    simp only [List.getElem?_toArray, List.getElem?_cons_zero, List.getElem?_cons_succ] at c
    go_enter Try.func57, Try.ntmps57
    go_wp2_with fail
    refine K.out.mono ?_
    rintro e1 w1 ⟨rfl, rfl⟩
    go_wp2_with fail
    go_ret2
    exact ⟨rfl, HB0.out⟩
  · have c := HBK.out.cell 10
    simp only [List.getElem?_toArray, List.getElem?_cons_zero, List.getElem?_cons_succ] at c
    go_enter Try.func57, Try.ntmps57
    go_wp2_with fail
    refine K.out.mono ?_
    rintro e1 w1 ⟨rfl, rfl⟩
    go_wp2_with fail
    go_ret2
    exact ⟨rfl, HB0.out⟩
  · have c := HBK.out.cell 11
    simp only [List.getElem?_toArray, List.getElem?_cons_zero, List.getElem?_cons_succ] at c
    go_enter Try.func57, Try.ntmps57
    go_wp2_with fail
    refine K.out.mono ?_
    rintro e1 w1 ⟨rfl, rfl⟩
    go_wp2_with fail
    go_ret2
    exact ⟨rfl, HB0.out⟩
  · have c := HBK.out.cell 12
    simp only [List.getElem?_toArray, List.getElem?_cons_zero, List.getElem?_cons_succ] at c
    go_enter Try.func57, Try.ntmps57
    go_wp2_with fail
    refine K.out.mono ?_
    rintro e1 w1 ⟨rfl, rfl⟩
    go_wp2_with fail
    go_ret2
    exact ⟨rfl, HB0.out⟩
  · have c := HBK.out.cell 13
    simp only [List.getElem?_toArray, List.getElem?_cons_zero, List.getElem?_cons_succ] at c
    go_enter Try.func57, Try.ntmps57
    go_wp2_with fail
    refine K.out.mono ?_
    rintro e1 w1 ⟨rfl, rfl⟩
    go_wp2_with fail
    go_ret2
    exact ⟨rfl, HB0.out⟩
  · have c := HBK.out.cell 14
    simp only [List.getElem?_toArray, List.getElem?_cons_zero, List.getElem?_cons_succ] at c
    go_enter Try.func57, Try.ntmps57
    go_wp2_with fail
    refine K.out.mono ?_
    rintro e1 w1 ⟨rfl, rfl⟩
    go_wp2_with fail
    go_ret2
    exact ⟨rfl, HB0.out⟩
  · have c := HBK.out.cell 15
    simp only [List.getElem?_toArray, List.getElem?_cons_zero, List.getElem?_cons_succ] at c
    go_enter Try.func57, Try.ntmps57
    go_wp2_with fail
    refine K.out.mono ?_
    rintro e1 w1 ⟨rfl, rfl⟩
    go_wp2_with fail
    go_ret2
    exact ⟨rfl, HB0.out⟩
  · have c := HBK.out.cell 16
    simp only [List.getElem?_toArray, List.getElem?_cons_zero, List.getElem?_cons_succ] at c
    go_enter Try.func57, Try.ntmps57
    go_wp2_with fail
    refine K.out.mono ?_
    rintro e1 w1 ⟨rfl, rfl⟩
    go_wp2_with fail
    go_ret2
    exact ⟨rfl, HB0.out⟩
  · have c := HBK.out.cell 17
    simp only [List.getElem?_toArray, List.getElem?_cons_zero, List.getElem?_cons_succ] at c
    go_enter Try.func57, Try.ntmps57
    go_wp2_with fail
    refine K.out.mono ?_
    rintro e1 w1 ⟨rfl, rfl⟩
    go_wp2_with fail
    go_ret2
    exact ⟨rfl, HB0.out⟩
  · have c := HBK.out.cell 18
    simp only [List.getElem?_toArray, List.getElem?_cons_zero, List.getElem?_cons_succ] at c
    go_enter Try.func57, Try.ntmps57
    go_wp2_with fail
    refine K.out.mono ?_
    rintro e1 w1 ⟨rfl, rfl⟩
    go_wp2_with fail
    go_ret2
    exact ⟨rfl, HB0.out⟩
  · have c := HBK.out.cell 19
    simp only [List.getElem?_toArray, List.getElem?_cons_zero, List.getElem?_cons_succ] at c
    go_enter Try.func57, Try.ntmps57
    go_wp2_with fail
    refine K.out.mono ?_
    rintro e1 w1 ⟨rfl, rfl⟩
    go_wp2_with fail
    go_ret2
    exact ⟨rfl, HB0.out⟩
theorem bop_split (x : Int) (h : 0 ≤ x ∧ x ≤ 18) : x = 0 ∨ x = 1 ∨ x = 2 ∨ x = 3 ∨ x = 4 ∨ x = 5 ∨ x = 6 ∨ x = 7 ∨ x = 8 ∨ x = 9 ∨ x = 10 ∨ x = 11 ∨ x = 12 ∨ x = 13 ∨ x = 14 ∨ x = 15 ∨ x = 16 ∨ x = 17 ∨ x = 18 := by omega
set_option maxRecDepth 100000 in
set_option maxHeartbeats 3200000 in
theorem bopPrec_any (x : Int) (w : World) (h : 0 ≤ x ∧ x ≤ 18) : Calls Try.prog 23 #[.int .i64 x] w (fun e w' => e = .returned (.int .i64 (precB x)) ∧ w = w') := by
  rcases bop_split x h with rfl | rfl | rfl | rfl | rfl | rfl | rfl | rfl | rfl | rfl | rfl | rfl | rfl | rfl | rfl | rfl | rfl | rfl | rfl
  all_goals
    go_enter Try.func23, Try.ntmps23
    go_wp2_with fail
    go_ret
    exact ⟨rfl, rfl⟩
set_option maxRecDepth 100000 in
theorem precLiteralNull (a : Addr) (w : World) : Calls Try.prog 13 #[.iface 96 (.pointer (some a))] w (fun e w' => e = .returned (.int .i64 (1)) ∧ w = w') := by
  have tApply : ∀ w : World, (Instr.typeAssert (.iface 96 (.pointer (some a))) 32 45 true).run Try.prog w = .ok (.tuple #[.pointer none, .bool false]) w := fun _ => by kernel_rfl
  have tApplyBrace : ∀ w : World, (Instr.typeAssert (.iface 96 (.pointer (some a))) 32 46 true).run Try.prog w = .ok (.tuple #[.pointer none, .bool false]) w := fun _ => by kernel_rfl
  have tIndex : ∀ w : World, (Instr.typeAssert (.iface 96 (.pointer (some a))) 32 47 true).run Try.prog w = .ok (.tuple #[.pointer none, .bool false]) w := fun _ => by kernel_rfl
  have tSuperIndex : ∀ w : World, (Instr.typeAssert (.iface 96 (.pointer (some a))) 32 48 true).run Try.prog w = .ok (.tuple #[.pointer none, .bool false]) w := fun _ => by kernel_rfl
  have tSlice : ∀ w : World, (Instr.typeAssert (.iface 96 (.pointer (some a))) 32 49 true).run Try.prog w = .ok (.tuple #[.pointer none, .bool false]) w := fun _ => by kernel_rfl
  have tUnary : ∀ w : World, (Instr.typeAssert (.iface 96 (.pointer (some a))) 32 50 true).run Try.prog w = .ok (.tuple #[.pointer none, .bool false]) w := fun _ => by kernel_rfl
  have tBinary : ∀ w : World, (Instr.typeAssert (.iface 96 (.pointer (some a))) 32 51 true).run Try.prog w = .ok (.tuple #[.pointer none, .bool false]) w := fun _ => by kernel_rfl
  have tInSuper : ∀ w : World, (Instr.typeAssert (.iface 96 (.pointer (some a))) 32 69 true).run Try.prog w = .ok (.tuple #[.pointer none, .bool false]) w := fun _ => by kernel_rfl
  have tLocal : ∀ w : World, (Instr.typeAssert (.iface 96 (.pointer (some a))) 32 70 true).run Try.prog w = .ok (.tuple #[.pointer none, .bool false]) w := fun _ => by kernel_rfl
  have tAssert : ∀ w : World, (Instr.typeAssert (.iface 96 (.pointer (some a))) 32 71 true).run Try.prog w = .ok (.tuple #[.pointer none, .bool false]) w := fun _ => by kernel_rfl
  have tError : ∀ w : World, (Instr.typeAssert (.iface 96 (.pointer (some a))) 32 72 true).run Try.prog w = .ok (.tuple #[.pointer none, .bool false]) w := fun _ => by kernel_rfl
  have tImport : ∀ w : World, (Instr.typeAssert (.iface 96 (.pointer (some a))) 32 73 true).run Try.prog w = .ok (.tuple #[.pointer none, .bool false]) w := fun _ => by kernel_rfl
  have tImportStr : ∀ w : World, (Instr.typeAssert (.iface 96 (.pointer (some a))) 32 74 true).run Try.prog w = .ok (.tuple #[.pointer none, .bool false]) w := fun _ => by kernel_rfl
  have tImportBin : ∀ w : World, (Instr.typeAssert (.iface 96 (.pointer (some a))) 32 75 true).run Try.prog w = .ok (.tuple #[.pointer none, .bool false]) w := fun _ => by kernel_rfl
  have tConditional : ∀ w : World, (Instr.typeAssert (.iface 96 (.pointer (some a))) 32 76 true).run Try.prog w = .ok (.tuple #[.pointer none, .bool false]) w := fun _ => by kernel_rfl
  go_enter Try.func13, Try.ntmps13
  go_wp2_with fail
  go_ret
  exact ⟨rfl, rfl⟩
set_option maxRecDepth 100000 in
theorem precLiteralBoolean (a : Addr) (w : World) : Calls Try.prog 13 #[.iface 99 (.pointer (some a))] w (fun e w' => e = .returned (.int .i64 (1)) ∧ w = w') := by
  have tApply : ∀ w : World, (Instr.typeAssert (.iface 99 (.pointer (some a))) 32 45 true).run Try.prog w = .ok (.tuple #[.pointer none, .bool false]) w := fun _ => by kernel_rfl
  have tApplyBrace : ∀ w : World, (Instr.typeAssert (.iface 99 (.pointer (some a))) 32 46 true).run Try.prog w = .ok (.tuple #[.pointer none, .bool false]) w := fun _ => by kernel_rfl
  have tIndex : ∀ w : World, (Instr.typeAssert (.iface 99 (.pointer (some a))) 32 47 true).run Try.prog w = .ok (.tuple #[.pointer none, .bool false]) w := fun _ => by kernel_rfl
  have tSuperIndex : ∀ w : World, (Instr.typeAssert (.iface 99 (.pointer (some a))) 32 48 true).run Try.prog w = .ok (.tuple #[.pointer none, .bool false]) w := fun _ => by kernel_rfl
  have tSlice : ∀ w : World, (Instr.typeAssert (.iface 99 (.pointer (some a))) 32 49 true).run Try.prog w = .ok (.tuple #[.pointer none, .bool false]) w := fun _ => by kernel_rfl
  have tUnary : ∀ w : World, (Instr.typeAssert (.iface 99 (.pointer (some a))) 32 50 true).run Try.prog w = .ok (.tuple #[.pointer none, .bool false]) w := fun _ => by kernel_rfl
  have tBinary : ∀ w : World, (Instr.typeAssert (.iface 99 (.pointer (some a))) 32 51 true).run Try.prog w = .ok (.tuple #[.pointer none, .bool false]) w := fun _ => by kernel_rfl
  have tInSuper : ∀ w : World, (Instr.typeAssert (.iface 99 (.pointer (some a))) 32 69 true).run Try.prog w = .ok (.tuple #[.pointer none, .bool false]) w := fun _ => by kernel_rfl
  have tLocal : ∀ w : World, (Instr.typeAssert (.iface 99 (.pointer (some a))) 32 70 true).run Try.prog w = .ok (.tuple #[.pointer none, .bool false]) w := fun _ => by kernel_rfl
  have tAssert : ∀ w : World, (Instr.typeAssert (.iface 99 (.pointer (some a))) 32 71 true).run Try.prog w = .ok (.tuple #[.pointer none, .bool false]) w := fun _ => by kernel_rfl
  have tError : ∀ w : World, (Instr.typeAssert (.iface 99 (.pointer (some a))) 32 72 true).run Try.prog w = .ok (.tuple #[.pointer none, .bool false]) w := fun _ => by kernel_rfl
  have tImport : ∀ w : World, (Instr.typeAssert (.iface 99 (.pointer (some a))) 32 73 true).run Try.prog w = .ok (.tuple #[.pointer none, .bool false]) w := fun _ => by kernel_rfl
  have tImportStr : ∀ w : World, (Instr.typeAssert (.iface 99 (.pointer (some a))) 32 74 true).run Try.prog w = .ok (.tuple #[.pointer none, .bool false]) w := fun _ => by kernel_rfl
  have tImportBin : ∀ w : World, (Instr.typeAssert (.iface 99 (.pointer (some a))) 32 75 true).run Try.prog w = .ok (.tuple #[.pointer none, .bool false]) w := fun _ => by kernel_rfl
  have tConditional : ∀ w : World, (Instr.typeAssert (.iface 99 (.pointer (some a))) 32 76 true).run Try.prog w = .ok (.tuple #[.pointer none, .bool false]) w := fun _ => by kernel_rfl
  go_enter Try.func13, Try.ntmps13
  go_wp2_with fail
  go_ret
  exact ⟨rfl, rfl⟩
set_option maxRecDepth 100000 in
theorem precLiteralNumber (a : Addr) (w : World) : Calls Try.prog 13 #[.iface 102 (.pointer (some a))] w (fun e w' => e = .returned (.int .i64 (1)) ∧ w = w') := by
  have tApply : ∀ w : World, (Instr.typeAssert (.iface 102 (.pointer (some a))) 32 45 true).run Try.prog w = .ok (.tuple #[.pointer none, .bool false]) w := fun _ => by kernel_rfl
  have tApplyBrace : ∀ w : World, (Instr.typeAssert (.iface 102 (.pointer (some a))) 32 46 true).run Try.prog w = .ok (.tuple #[.pointer none, .bool false]) w := fun _ => by kernel_rfl
  have tIndex : ∀ w : World, (Instr.typeAssert (.iface 102 (.pointer (some a))) 32 47 true).run Try.prog w = .ok (.tuple #[.pointer none, .bool false]) w := fun _ => by kernel_rfl
  have tSuperIndex : ∀ w : World, (Instr.typeAssert (.iface 102 (.pointer (some a))) 32 48 true).run Try.prog w = .ok (.tuple #[.pointer none, .bool false]) w := fun _ => by kernel_rfl
  have tSlice : ∀ w : World, (Instr.typeAssert (.iface 102 (.pointer (some a))) 32 49 true).run Try.prog w = .ok (.tuple #[.pointer none, .bool false]) w := fun _ => by kernel_rfl
  have tUnary : ∀ w : World, (Instr.typeAssert (.iface 102 (.pointer (some a))) 32 50 true).run Try.prog w = .ok (.tuple #[.pointer none, .bool false]) w := fun _ => by kernel_rfl
  have tBinary : ∀ w : World, (Instr.typeAssert (.iface 102 (.pointer (some a))) 32 51 true).run Try.prog w = .ok (.tuple #[.pointer none, .bool false]) w := fun _ => by kernel_rfl
  have tInSuper : ∀ w : World, (Instr.typeAssert (.iface 102 (.pointer (some a))) 32 69 true).run Try.prog w = .ok (.tuple #[.pointer none, .bool false]) w := fun _ => by kernel_rfl
  have tLocal : ∀ w : World, (Instr.typeAssert (.iface 102 (.pointer (some a))) 32 70 true).run Try.prog w = .ok (.tuple #[.pointer none, .bool false]) w := fun _ => by kernel_rfl
  have tAssert : ∀ w : World, (Instr.typeAssert (.iface 102 (.pointer (some a))) 32 71 true).run Try.prog w = .ok (.tuple #[.pointer none, .bool false]) w := fun _ => by kernel_rfl
  have tError : ∀ w : World, (Instr.typeAssert (.iface 102 (.pointer (some a))) 32 72 true).run Try.prog w = .ok (.tuple #[.pointer none, .bool false]) w := fun _ => by kernel_rfl
  have tImport : ∀ w : World, (Instr.typeAssert (.iface 102 (.pointer (some a))) 32 73 true).run Try.prog w = .ok (.tuple #[.pointer none, .bool false]) w := fun _ => by kernel_rfl
  have tImportStr : ∀ w : World, (Instr.typeAssert (.iface 102 (.pointer (some a))) 32 74 true).run Try.prog w = .ok (.tuple #[.pointer none, .bool false]) w := fun _ => by kernel_rfl
  have tImportBin : ∀ w : World, (Instr.typeAssert (.iface 102 (.pointer (some a))) 32 75 true).run Try.prog w = .ok (.tuple #[.pointer none, .bool false]) w := fun _ => by kernel_rfl
  have tConditional : ∀ w : World, (Instr.typeAssert (.iface 102 (.pointer (some a))) 32 76 true).run Try.prog w = .ok (.tuple #[.pointer none, .bool false]) w := fun _ => by kernel_rfl
  go_enter Try.func13, Try.ntmps13
  go_wp2_with fail
  go_ret
  exact ⟨rfl, rfl⟩
set_option maxRecDepth 100000 in
theorem precLiteralString (a : Addr) (w : World) : Calls Try.prog 13 #[.iface 105 (.pointer (some a))] w (fun e w' => e = .returned (.int .i64 (1)) ∧ w = w') := by
  have tApply : ∀ w : World, (Instr.typeAssert (.iface 105 (.pointer (some a))) 32 45 true).run Try.prog w = .ok (.tuple #[.pointer none, .bool false]) w := fun _ => by kernel_rfl
  have tApplyBrace : ∀ w : World, (Instr.typeAssert (.iface 105 (.pointer (some a))) 32 46 true).run Try.prog w = .ok (.tuple #[.pointer none, .bool false]) w := fun _ => by kernel_rfl
  have tIndex : ∀ w : World, (Instr.typeAssert (.iface 105 (.pointer (some a))) 32 47 true).run Try.prog w = .ok (.tuple #[.pointer none, .bool false]) w := fun _ => by kernel_rfl
  have tSuperIndex : ∀ w : World, (Instr.typeAssert (.iface 105 (.pointer (some a))) 32 48 true).run Try.prog w = .ok (.tuple #[.pointer none, .bool false]) w := fun _ => by kernel_rfl
  have tSlice : ∀ w : World, (Instr.typeAssert (.iface 105 (.pointer (some a))) 32 49 true).run Try.prog w = .ok (.tuple #[.pointer none, .bool false]) w := fun _ => by kernel_rfl
  have tUnary : ∀ w : World, (Instr.typeAssert (.iface 105 (.pointer (some a))) 32 50 true).run Try.prog w = .ok (.tuple #[.pointer none, .bool false]) w := fun _ => by kernel_rfl
  have tBinary : ∀ w : World, (Instr.typeAssert (.iface 105 (.pointer (some a))) 32 51 true).run Try.prog w = .ok (.tuple #[.pointer none, .bool false]) w := fun _ => by kernel_rfl
  have tInSuper : ∀ w : World, (Instr.typeAssert (.iface 105 (.pointer (some a))) 32 69 true).run Try.prog w = .ok (.tuple #[.pointer none, .bool false]) w := fun _ => by kernel_rfl
  have tLocal : ∀ w : World, (Instr.typeAssert (.iface 105 (.pointer (some a))) 32 70 true).run Try.prog w = .ok (.tuple #[.pointer none, .bool false]) w := fun _ => by kernel_rfl
  have tAssert : ∀ w : World, (Instr.typeAssert (.iface 105 (.pointer (some a))) 32 71 true).run Try.prog w = .ok (.tuple #[.pointer none, .bool false]) w := fun _ => by kernel_rfl
  have tError : ∀ w : World, (Instr.typeAssert (.iface 105 (.pointer (some a))) 32 72 true).run Try.prog w = .ok (.tuple #[.pointer none, .bool false]) w := fun _ => by kernel_rfl
  have tImport : ∀ w : World, (Instr.typeAssert (.iface 105 (.pointer (some a))) 32 73 true).run Try.prog w = .ok (.tuple #[.pointer none, .bool false]) w := fun _ => by kernel_rfl
  have tImportStr : ∀ w : World, (Instr.typeAssert (.iface 105 (.pointer (some a))) 32 74 true).run Try.prog w = .ok (.tuple #[.pointer none, .bool false]) w := fun _ => by kernel_rfl
  have tImportBin : ∀ w : World, (Instr.typeAssert (.iface 105 (.pointer (some a))) 32 75 true).run Try.prog w = .ok (.tuple #[.pointer none, .bool false]) w := fun _ => by kernel_rfl
  have tConditional : ∀ w : World, (Instr.typeAssert (.iface 105 (.pointer (some a))) 32 76 true).run Try.prog w = .ok (.tuple #[.pointer none, .bool false]) w := fun _ => by kernel_rfl
  go_enter Try.func13, Try.ntmps13
  go_wp2_with fail
  go_ret
  exact ⟨rfl, rfl⟩
set_option maxRecDepth 100000 in
theorem precSelf (a : Addr) (w : World) : Calls Try.prog 13 #[.iface 107 (.pointer (some a))] w (fun e w' => e = .returned (.int .i64 (1)) ∧ w = w') := by
  have tApply : ∀ w : World, (Instr.typeAssert (.iface 107 (.pointer (some a))) 32 45 true).run Try.prog w = .ok (.tuple #[.pointer none, .bool false]) w := fun _ => by kernel_rfl
  have tApplyBrace : ∀ w : World, (Instr.typeAssert (.iface 107 (.pointer (some a))) 32 46 true).run Try.prog w = .ok (.tuple #[.pointer none, .bool false]) w := fun _ => by kernel_rfl
  have tIndex : ∀ w : World, (Instr.typeAssert (.iface 107 (.pointer (some a))) 32 47 true).run Try.prog w = .ok (.tuple #[.pointer none, .bool false]) w := fun _ => by kernel_rfl
  have tSuperIndex : ∀ w : World, (Instr.typeAssert (.iface 107 (.pointer (some a))) 32 48 true).run Try.prog w = .ok (.tuple #[.pointer none, .bool false]) w := fun _ => by kernel_rfl
  have tSlice : ∀ w : World, (Instr.typeAssert (.iface 107 (.pointer (some a))) 32 49 true).run Try.prog w = .ok (.tuple #[.pointer none, .bool false]) w := fun _ => by kernel_rfl
  have tUnary : ∀ w : World, (Instr.typeAssert (.iface 107 (.pointer (some a))) 32 50 true).run Try.prog w = .ok (.tuple #[.pointer none, .bool false]) w := fun _ => by kernel_rfl
  have tBinary : ∀ w : World, (Instr.typeAssert (.iface 107 (.pointer (some a))) 32 51 true).run Try.prog w = .ok (.tuple #[.pointer none, .bool false]) w := fun _ => by kernel_rfl
  have tInSuper : ∀ w : World, (Instr.typeAssert (.iface 107 (.pointer (some a))) 32 69 true).run Try.prog w = .ok (.tuple #[.pointer none, .bool false]) w := fun _ => by kernel_rfl
  have tLocal : ∀ w : World, (Instr.typeAssert (.iface 107 (.pointer (some a))) 32 70 true).run Try.prog w = .ok (.tuple #[.pointer none, .bool false]) w := fun _ => by kernel_rfl
  have tAssert : ∀ w : World, (Instr.typeAssert (.iface 107 (.pointer (some a))) 32 71 true).run Try.prog w = .ok (.tuple #[.pointer none, .bool false]) w := fun _ => by kernel_rfl
  have tError : ∀ w : World, (Instr.typeAssert (.iface 107 (.pointer (some a))) 32 72 true).run Try.prog w = .ok (.tuple #[.pointer none, .bool false]) w := fun _ => by kernel_rfl
  have tImport : ∀ w : World, (Instr.typeAssert (.iface 107 (.pointer (some a))) 32 73 true).run Try.prog w = .ok (.tuple #[.pointer none, .bool false]) w := fun _ => by kernel_rfl
  have tImportStr : ∀ w : World, (Instr.typeAssert (.iface 107 (.pointer (some a))) 32 74 true).run Try.prog w = .ok (.tuple #[.pointer none, .bool false]) w := fun _ => by kernel_rfl
  have tImportBin : ∀ w : World, (Instr.typeAssert (.iface 107 (.pointer (some a))) 32 75 true).run Try.prog w = .ok (.tuple #[.pointer none, .bool false]) w := fun _ => by kernel_rfl
  have tConditional : ∀ w : World, (Instr.typeAssert (.iface 107 (.pointer (some a))) 32 76 true).run Try.prog w = .ok (.tuple #[.pointer none, .bool false]) w := fun _ => by kernel_rfl
  go_enter Try.func13, Try.ntmps13
  go_wp2_with fail
  go_ret
  exact ⟨rfl, rfl⟩
set_option maxRecDepth 100000 in
theorem precDollar (a : Addr) (w : World) : Calls Try.prog 13 #[.iface 109 (.pointer (some a))] w (fun e w' => e = .returned (.int .i64 (1)) ∧ w = w') := by
  have tApply : ∀ w : World, (Instr.typeAssert (.iface 109 (.pointer (some a))) 32 45 true).run Try.prog w = .ok (.tuple #[.pointer none, .bool false]) w := fun _ => by kernel_rfl
  have tApplyBrace : ∀ w : World, (Instr.typeAssert (.iface 109 (.pointer (some a))) 32 46 true).run Try.prog w = .ok (.tuple #[.pointer none, .bool false]) w := fun _ => by kernel_rfl
  have tIndex : ∀ w : World, (Instr.typeAssert (.iface 109 (.pointer (some a))) 32 47 true).run Try.prog w = .ok (.tuple #[.pointer none, .bool false]) w := fun _ => by kernel_rfl
  have tSuperIndex : ∀ w : World, (Instr.typeAssert (.iface 109 (.pointer (some a))) 32 48 true).run Try.prog w = .ok (.tuple #[.pointer none, .bool false]) w := fun _ => by kernel_rfl
  have tSlice : ∀ w : World, (Instr.typeAssert (.iface 109 (.pointer (some a))) 32 49 true).run Try.prog w = .ok (.tuple #[.pointer none, .bool false]) w := fun _ => by kernel_rfl
  have tUnary : ∀ w : World, (Instr.typeAssert (.iface 109 (.pointer (some a))) 32 50 true).run Try.prog w = .ok (.tuple #[.pointer none, .bool false]) w := fun _ => by kernel_rfl
  have tBinary : ∀ w : World, (Instr.typeAssert (.iface 109 (.pointer (some a))) 32 51 true).run Try.prog w = .ok (.tuple #[.pointer none, .bool false]) w := fun _ => by kernel_rfl
  have tInSuper : ∀ w : World, (Instr.typeAssert (.iface 109 (.pointer (some a))) 32 69 true).run Try.prog w = .ok (.tuple #[.pointer none, .bool false]) w := fun _ => by kernel_rfl
  have tLocal : ∀ w : World, (Instr.typeAssert (.iface 109 (.pointer (some a))) 32 70 true).run Try.prog w = .ok (.tuple #[.pointer none, .bool false]) w := fun _ => by kernel_rfl
  have tAssert : ∀ w : World, (Instr.typeAssert (.iface 109 (.pointer (some a))) 32 71 true).run Try.prog w = .ok (.tuple #[.pointer none, .bool false]) w := fun _ => by kernel_rfl
  have tError : ∀ w : World, (Instr.typeAssert (.iface 109 (.pointer (some a))) 32 72 true).run Try.prog w = .ok (.tuple #[.pointer none, .bool false]) w := fun _ => by kernel_rfl
  have tImport : ∀ w : World, (Instr.typeAssert (.iface 109 (.pointer (some a))) 32 73 true).run Try.prog w = .ok (.tuple #[.pointer none, .bool false]) w := fun _ => by kernel_rfl
  have tImportStr : ∀ w : World, (Instr.typeAssert (.iface 109 (.pointer (some a))) 32 74 true).run Try.prog w = .ok (.tuple #[.pointer none, .bool false]) w := fun _ => by kernel_rfl
  have tImportBin : ∀ w : World, (Instr.typeAssert (.iface 109 (.pointer (some a))) 32 75 true).run Try.prog w = .ok (.tuple #[.pointer none, .bool false]) w := fun _ => by kernel_rfl
  have tConditional : ∀ w : World, (Instr.typeAssert (.iface 109 (.pointer (some a))) 32 76 true).run Try.prog w = .ok (.tuple #[.pointer none, .bool false]) w := fun _ => by kernel_rfl
  go_enter Try.func13, Try.ntmps13
  go_wp2_with fail
  go_ret
  exact ⟨rfl, rfl⟩
set_option maxRecDepth 100000 in
theorem precVar (a : Addr) (w : World) : Calls Try.prog 13 #[.iface 111 (.pointer (some a))] w (fun e w' => e = .returned (.int .i64 (1)) ∧ w = w') := by
  have tApply : ∀ w : World, (Instr.typeAssert (.iface 111 (.pointer (some a))) 32 45 true).run Try.prog w = .ok (.tuple #[.pointer none, .bool false]) w := fun _ => by kernel_rfl
  have tApplyBrace : ∀ w : World, (Instr.typeAssert (.iface 111 (.pointer (some a))) 32 46 true).run Try.prog w = .ok (.tuple #[.pointer none, .bool false]) w := fun _ => by kernel_rfl
  have tIndex : ∀ w : World, (Instr.typeAssert (.iface 111 (.pointer (some a))) 32 47 true).run Try.prog w = .ok (.tuple #[.pointer none, .bool false]) w := fun _ => by kernel_rfl
  have tSuperIndex : ∀ w : World, (Instr.typeAssert (.iface 111 (.pointer (some a))) 32 48 true).run Try.prog w = .ok (.tuple #[.pointer none, .bool false]) w := fun _ => by kernel_rfl
  have tSlice : ∀ w : World, (Instr.typeAssert (.iface 111 (.pointer (some a))) 32 49 true).run Try.prog w = .ok (.tuple #[.pointer none, .bool false]) w := fun _ => by kernel_rfl
  have tUnary : ∀ w : World, (Instr.typeAssert (.iface 111 (.pointer (some a))) 32 50 true).run Try.prog w = .ok (.tuple #[.pointer none, .bool false]) w := fun _ => by kernel_rfl
  have tBinary : ∀ w : World, (Instr.typeAssert (.iface 111 (.pointer (some a))) 32 51 true).run Try.prog w = .ok (.tuple #[.pointer none, .bool false]) w := fun _ => by kernel_rfl
  have tInSuper : ∀ w : World, (Instr.typeAssert (.iface 111 (.pointer (some a))) 32 69 true).run Try.prog w = .ok (.tuple #[.pointer none, .bool false]) w := fun _ => by kernel_rfl
  have tLocal : ∀ w : World, (Instr.typeAssert (.iface 111 (.pointer (some a))) 32 70 true).run Try.prog w = .ok (.tuple #[.pointer none, .bool false]) w := fun _ => by kernel_rfl
  have tAssert : ∀ w : World, (Instr.typeAssert (.iface 111 (.pointer (some a))) 32 71 true).run Try.prog w = .ok (.tuple #[.pointer none, .bool false]) w := fun _ => by kernel_rfl
  have tError : ∀ w : World, (Instr.typeAssert (.iface 111 (.pointer (some a))) 32 72 true).run Try.prog w = .ok (.tuple #[.pointer none, .bool false]) w := fun _ => by kernel_rfl
  have tImport : ∀ w : World, (Instr.typeAssert (.iface 111 (.pointer (some a))) 32 73 true).run Try.prog w = .ok (.tuple #[.pointer none, .bool false]) w := fun _ => by kernel_rfl
  have tImportStr : ∀ w : World, (Instr.typeAssert (.iface 111 (.pointer (some a))) 32 74 true).run Try.prog w = .ok (.tuple #[.pointer none, .bool false]) w := fun _ => by kernel_rfl
  have tImportBin : ∀ w : World, (Instr.typeAssert (.iface 111 (.pointer (some a))) 32 75 true).run Try.prog w = .ok (.tuple #[.pointer none, .bool false]) w := fun _ => by kernel_rfl
  have tConditional : ∀ w : World, (Instr.typeAssert (.iface 111 (.pointer (some a))) 32 76 true).run Try.prog w = .ok (.tuple #[.pointer none, .bool false]) w := fun _ => by kernel_rfl
  go_enter Try.func13, Try.ntmps13
  go_wp2_with fail
  go_ret
  exact ⟨rfl, rfl⟩
set_option maxRecDepth 100000 in
theorem precSuperIndex (a : Addr) (w : World) : Calls Try.prog 13 #[.iface 48 (.pointer (some a))] w (fun e w' => e = .returned (.int .i64 (2)) ∧ w = w') := by
  have tApply : ∀ w : World, (Instr.typeAssert (.iface 48 (.pointer (some a))) 32 45 true).run Try.prog w = .ok (.tuple #[.pointer none, .bool false]) w := fun _ => by kernel_rfl
  have tApplyBrace : ∀ w : World, (Instr.typeAssert (.iface 48 (.pointer (some a))) 32 46 true).run Try.prog w = .ok (.tuple #[.pointer none, .bool false]) w := fun _ => by kernel_rfl
  have tIndex : ∀ w : World, (Instr.typeAssert (.iface 48 (.pointer (some a))) 32 47 true).run Try.prog w = .ok (.tuple #[.pointer none, .bool false]) w := fun _ => by kernel_rfl
  have tSuperIndex : ∀ w : World, (Instr.typeAssert (.iface 48 (.pointer (some a))) 32 48 true).run Try.prog w = .ok (.tuple #[.pointer (some a), .bool true]) w := fun _ => by kernel_rfl
  have tSlice : ∀ w : World, (Instr.typeAssert (.iface 48 (.pointer (some a))) 32 49 true).run Try.prog w = .ok (.tuple #[.pointer none, .bool false]) w := fun _ => by kernel_rfl
  go_enter Try.func13, Try.ntmps13
  go_wp2_with fail
  go_ret
  exact ⟨rfl, rfl⟩
set_option maxRecDepth 100000 in
theorem precInSuper (a : Addr) (w : World) : Calls Try.prog 13 #[.iface 69 (.pointer (some a))] w (fun e w' => e = .returned (.int .i64 (8)) ∧ w = w') := by
  have tApply : ∀ w : World, (Instr.typeAssert (.iface 69 (.pointer (some a))) 32 45 true).run Try.prog w = .ok (.tuple #[.pointer none, .bool false]) w := fun _ => by kernel_rfl
  have tApplyBrace : ∀ w : World, (Instr.typeAssert (.iface 69 (.pointer (some a))) 32 46 true).run Try.prog w = .ok (.tuple #[.pointer none, .bool false]) w := fun _ => by kernel_rfl
  have tIndex : ∀ w : World, (Instr.typeAssert (.iface 69 (.pointer (some a))) 32 47 true).run Try.prog w = .ok (.tuple #[.pointer none, .bool false]) w := fun _ => by kernel_rfl
  have tSuperIndex : ∀ w : World, (Instr.typeAssert (.iface 69 (.pointer (some a))) 32 48 true).run Try.prog w = .ok (.tuple #[.pointer none, .bool false]) w := fun _ => by kernel_rfl
  have tSlice : ∀ w : World, (Instr.typeAssert (.iface 69 (.pointer (some a))) 32 49 true).run Try.prog w = .ok (.tuple #[.pointer none, .bool false]) w := fun _ => by kernel_rfl
  have tUnary : ∀ w : World, (Instr.typeAssert (.iface 69 (.pointer (some a))) 32 50 true).run Try.prog w = .ok (.tuple #[.pointer none, .bool false]) w := fun _ => by kernel_rfl
  have tBinary : ∀ w : World, (Instr.typeAssert (.iface 69 (.pointer (some a))) 32 51 true).run Try.prog w = .ok (.tuple #[.pointer none, .bool false]) w := fun _ => by kernel_rfl
  have tInSuper : ∀ w : World, (Instr.typeAssert (.iface 69 (.pointer (some a))) 32 69 true).run Try.prog w = .ok (.tuple #[.pointer (some a), .bool true]) w := fun _ => by kernel_rfl
  have K := Lib.hid (bopPrec_any 11 w (by decide))
  go_enter Try.func13, Try.ntmps13
  go_wp2_with fail
  refine K.out.mono ?_
  rintro e1 w1 ⟨rfl, rfl⟩
  go_wp2_with fail
  go_ret
  exact ⟨rfl, rfl⟩
set_option maxRecDepth 100000 in
theorem precArray (a : Addr) (w : World) : Calls Try.prog 13 #[.iface 125 (.pointer (some a))] w (fun e w' => e = .returned (.int .i64 (1)) ∧ w = w') := by
  have tApply : ∀ w : World, (Instr.typeAssert (.iface 125 (.pointer (some a))) 32 45 true).run Try.prog w = .ok (.tuple #[.pointer none, .bool false]) w := fun _ => by kernel_rfl
  have tApplyBrace : ∀ w : World, (Instr.typeAssert (.iface 125 (.pointer (some a))) 32 46 true).run Try.prog w = .ok (.tuple #[.pointer none, .bool false]) w := fun _ => by kernel_rfl
  have tIndex : ∀ w : World, (Instr.typeAssert (.iface 125 (.pointer (some a))) 32 47 true).run Try.prog w = .ok (.tuple #[.pointer none, .bool false]) w := fun _ => by kernel_rfl
  have tSuperIndex : ∀ w : World, (Instr.typeAssert (.iface 125 (.pointer (some a))) 32 48 true).run Try.prog w = .ok (.tuple #[.pointer none, .bool false]) w := fun _ => by kernel_rfl
  have tSlice : ∀ w : World, (Instr.typeAssert (.iface 125 (.pointer (some a))) 32 49 true).run Try.prog w = .ok (.tuple #[.pointer none, .bool false]) w := fun _ => by kernel_rfl
  have tUnary : ∀ w : World, (Instr.typeAssert (.iface 125 (.pointer (some a))) 32 50 true).run Try.prog w = .ok (.tuple #[.pointer none, .bool false]) w := fun _ => by kernel_rfl
  have tBinary : ∀ w : World, (Instr.typeAssert (.iface 125 (.pointer (some a))) 32 51 true).run Try.prog w = .ok (.tuple #[.pointer none, .bool false]) w := fun _ => by kernel_rfl
  have tInSuper : ∀ w : World, (Instr.typeAssert (.iface 125 (.pointer (some a))) 32 69 true).run Try.prog w = .ok (.tuple #[.pointer none, .bool false]) w := fun _ => by kernel_rfl
  have tLocal : ∀ w : World, (Instr.typeAssert (.iface 125 (.pointer (some a))) 32 70 true).run Try.prog w = .ok (.tuple #[.pointer none, .bool false]) w := fun _ => by kernel_rfl
  have tAssert : ∀ w : World, (Instr.typeAssert (.iface 125 (.pointer (some a))) 32 71 true).run Try.prog w = .ok (.tuple #[.pointer none, .bool false]) w := fun _ => by kernel_rfl
  have tError : ∀ w : World, (Instr.typeAssert (.iface 125 (.pointer (some a))) 32 72 true).run Try.prog w = .ok (.tuple #[.pointer none, .bool false]) w := fun _ => by kernel_rfl
  have tImport : ∀ w : World, (Instr.typeAssert (.iface 125 (.pointer (some a))) 32 73 true).run Try.prog w = .ok (.tuple #[.pointer none, .bool false]) w := fun _ => by kernel_rfl
  have tImportStr : ∀ w : World, (Instr.typeAssert (.iface 125 (.pointer (some a))) 32 74 true).run Try.prog w = .ok (.tuple #[.pointer none, .bool false]) w := fun _ => by kernel_rfl
  have tImportBin : ∀ w : World, (Instr.typeAssert (.iface 125 (.pointer (some a))) 32 75 true).run Try.prog w = .ok (.tuple #[.pointer none, .bool false]) w := fun _ => by kernel_rfl
  have tConditional : ∀ w : World, (Instr.typeAssert (.iface 125 (.pointer (some a))) 32 76 true).run Try.prog w = .ok (.tuple #[.pointer none, .bool false]) w := fun _ => by kernel_rfl
  go_enter Try.func13, Try.ntmps13
  go_wp2_with fail
  go_ret
  exact ⟨rfl, rfl⟩
set_option maxRecDepth 100000 in
theorem precArrayComp (a : Addr) (w : World) : Calls Try.prog 13 #[.iface 175 (.pointer (some a))] w (fun e w' => e = .returned (.int .i64 (1)) ∧ w = w') := by
  have tApply : ∀ w : World, (Instr.typeAssert (.iface 175 (.pointer (some a))) 32 45 true).run Try.prog w = .ok (.tuple #[.pointer none, .bool false]) w := fun _ => by kernel_rfl
  have tApplyBrace : ∀ w : World, (Instr.typeAssert (.iface 175 (.pointer (some a))) 32 46 true).run Try.prog w = .ok (.tuple #[.pointer none, .bool false]) w := fun _ => by kernel_rfl
  have tIndex : ∀ w : World, (Instr.typeAssert (.iface 175 (.pointer (some a))) 32 47 true).run Try.prog w = .ok (.tuple #[.pointer none, .bool false]) w := fun _ => by kernel_rfl
  have tSuperIndex : ∀ w : World, (Instr.typeAssert (.iface 175 (.pointer (some a))) 32 48 true).run Try.prog w = .ok (.tuple #[.pointer none, .bool false]) w := fun _ => by kernel_rfl
  have tSlice : ∀ w : World, (Instr.typeAssert (.iface 175 (.pointer (some a))) 32 49 true).run Try.prog w = .ok (.tuple #[.pointer none, .bool false]) w := fun _ => by kernel_rfl
  have tUnary : ∀ w : World, (Instr.typeAssert (.iface 175 (.pointer (some a))) 32 50 true).run Try.prog w = .ok (.tuple #[.pointer none, .bool false]) w := fun _ => by kernel_rfl
  have tBinary : ∀ w : World, (Instr.typeAssert (.iface 175 (.pointer (some a))) 32 51 true).run Try.prog w = .ok (.tuple #[.pointer none, .bool false]) w := fun _ => by kernel_rfl
  have tInSuper : ∀ w : World, (Instr.typeAssert (.iface 175 (.pointer (some a))) 32 69 true).run Try.prog w = .ok (.tuple #[.pointer none, .bool false]) w := fun _ => by kernel_rfl
  have tLocal : ∀ w : World, (Instr.typeAssert (.iface 175 (.pointer (some a))) 32 70 true).run Try.prog w = .ok (.tuple #[.pointer none, .bool false]) w := fun _ => by kernel_rfl
  have tAssert : ∀ w : World, (Instr.typeAssert (.iface 175 (.pointer (some a))) 32 71 true).run Try.prog w = .ok (.tuple #[.pointer none, .bool false]) w := fun _ => by kernel_rfl
  have tError : ∀ w : World, (Instr.typeAssert (.iface 175 (.pointer (some a))) 32 72 true).run Try.prog w = .ok (.tuple #[.pointer none, .bool false]) w := fun _ => by kernel_rfl
  have tImport : ∀ w : World, (Instr.typeAssert (.iface 175 (.pointer (some a))) 32 73 true).run Try.prog w = .ok (.tuple #[.pointer none, .bool false]) w := fun _ => by kernel_rfl
  have tImportStr : ∀ w : World, (Instr.typeAssert (.iface 175 (.pointer (some a))) 32 74 true).run Try.prog w = .ok (.tuple #[.pointer none, .bool false]) w := fun _ => by kernel_rfl
  have tImportBin : ∀ w : World, (Instr.typeAssert (.iface 175 (.pointer (some a))) 32 75 true).run Try.prog w = .ok (.tuple #[.pointer none, .bool false]) w := fun _ => by kernel_rfl
  have tConditional : ∀ w : World, (Instr.typeAssert (.iface 175 (.pointer (some a))) 32 76 true).run Try.prog w = .ok (.tuple #[.pointer none, .bool false]) w := fun _ => by kernel_rfl
  go_enter Try.func13, Try.ntmps13
  go_wp2_with fail
  go_ret
  exact ⟨rfl, rfl⟩
set_option maxRecDepth 100000 in
theorem precObject (a : Addr) (w : World) : Calls Try.prog 13 #[.iface 183 (.pointer (some a))] w (fun e w' => e = .returned (.int .i64 (1)) ∧ w = w') := by
  have tApply : ∀ w : World, (Instr.typeAssert (.iface 183 (.pointer (some a))) 32 45 true).run Try.prog w = .ok (.tuple #[.pointer none, .bool false]) w := fun _ => by kernel_rfl
  have tApplyBrace : ∀ w : World, (Instr.typeAssert (.iface 183 (.pointer (some a))) 32 46 true).run Try.prog w = .ok (.tuple #[.pointer none, .bool false]) w := fun _ => by kernel_rfl
  have tIndex : ∀ w : World, (Instr.typeAssert (.iface 183 (.pointer (some a))) 32 47 true).run Try.prog w = .ok (.tuple #[.pointer none, .bool false]) w := fun _ => by kernel_rfl
  have tSuperIndex : ∀ w : World, (Instr.typeAssert (.iface 183 (.pointer (some a))) 32 48 true).run Try.prog w = .ok (.tuple #[.pointer none, .bool false]) w := fun _ => by kernel_rfl
  have tSlice : ∀ w : World, (Instr.typeAssert (.iface 183 (.pointer (some a))) 32 49 true).run Try.prog w = .ok (.tuple #[.pointer none, .bool false]) w := fun _ => by kernel_rfl
  have tUnary : ∀ w : World, (Instr.typeAssert (.iface 183 (.pointer (some a))) 32 50 true).run Try.prog w = .ok (.tuple #[.pointer none, .bool false]) w := fun _ => by kernel_rfl
  have tBinary : ∀ w : World, (Instr.typeAssert (.iface 183 (.pointer (some a))) 32 51 true).run Try.prog w = .ok (.tuple #[.pointer none, .bool false]) w := fun _ => by kernel_rfl
  have tInSuper : ∀ w : World, (Instr.typeAssert (.iface 183 (.pointer (some a))) 32 69 true).run Try.prog w = .ok (.tuple #[.pointer none, .bool false]) w := fun _ => by kernel_rfl
  have tLocal : ∀ w : World, (Instr.typeAssert (.iface 183 (.pointer (some a))) 32 70 true).run Try.prog w = .ok (.tuple #[.pointer none, .bool false]) w := fun _ => by kernel_rfl
  have tAssert : ∀ w : World, (Instr.typeAssert (.iface 183 (.pointer (some a))) 32 71 true).run Try.prog w = .ok (.tuple #[.pointer none, .bool false]) w := fun _ => by kernel_rfl
  have tError : ∀ w : World, (Instr.typeAssert (.iface 183 (.pointer (some a))) 32 72 true).run Try.prog w = .ok (.tuple #[.pointer none, .bool false]) w := fun _ => by kernel_rfl
  have tImport : ∀ w : World, (Instr.typeAssert (.iface 183 (.pointer (some a))) 32 73 true).run Try.prog w = .ok (.tuple #[.pointer none, .bool false]) w := fun _ => by kernel_rfl
  have tImportStr : ∀ w : World, (Instr.typeAssert (.iface 183 (.pointer (some a))) 32 74 true).run Try.prog w = .ok (.tuple #[.pointer none, .bool false]) w := fun _ => by kernel_rfl
  have tImportBin : ∀ w : World, (Instr.typeAssert (.iface 183 (.pointer (some a))) 32 75 true).run Try.prog w = .ok (.tuple #[.pointer none, .bool false]) w := fun _ => by kernel_rfl
  have tConditional : ∀ w : World, (Instr.typeAssert (.iface 183 (.pointer (some a))) 32 76 true).run Try.prog w = .ok (.tuple #[.pointer none, .bool false]) w := fun _ => by kernel_rfl
  go_enter Try.func13, Try.ntmps13
  go_wp2_with fail
  go_ret
  exact ⟨rfl, rfl⟩
set_option maxRecDepth 100000 in
theorem precObjectComp (a : Addr) (w : World) : Calls Try.prog 13 #[.iface 213 (.pointer (some a))] w (fun e w' => e = .returned (.int .i64 (1)) ∧ w = w') := by
  have tApply : ∀ w : World, (Instr.typeAssert (.iface 213 (.pointer (some a))) 32 45 true).run Try.prog w = .ok (.tuple #[.pointer none, .bool false]) w := fun _ => by kernel_rfl
  have tApplyBrace : ∀ w : World, (Instr.typeAssert (.iface 213 (.pointer (some a))) 32 46 true).run Try.prog w = .ok (.tuple #[.pointer none, .bool false]) w := fun _ => by kernel_rfl
  have tIndex : ∀ w : World, (Instr.typeAssert (.iface 213 (.pointer (some a))) 32 47 true).run Try.prog w = .ok (.tuple #[.pointer none, .bool false]) w := fun _ => by kernel_rfl
  have tSuperIndex : ∀ w : World, (Instr.typeAssert (.iface 213 (.pointer (some a))) 32 48 true).run Try.prog w = .ok (.tuple #[.pointer none, .bool false]) w := fun _ => by kernel_rfl
  have tSlice : ∀ w : World, (Instr.typeAssert (.iface 213 (.pointer (some a))) 32 49 true).run Try.prog w = .ok (.tuple #[.pointer none, .bool false]) w := fun _ => by kernel_rfl
  have tUnary : ∀ w : World, (Instr.typeAssert (.iface 213 (.pointer (some a))) 32 50 true).run Try.prog w = .ok (.tuple #[.pointer none, .bool false]) w := fun _ => by kernel_rfl
  have tBinary : ∀ w : World, (Instr.typeAssert (.iface 213 (.pointer (some a))) 32 51 true).run Try.prog w = .ok (.tuple #[.pointer none, .bool false]) w := fun _ => by kernel_rfl
  have tInSuper : ∀ w : World, (Instr.typeAssert (.iface 213 (.pointer (some a))) 32 69 true).run Try.prog w = .ok (.tuple #[.pointer none, .bool false]) w := fun _ => by kernel_rfl
  have tLocal : ∀ w : World, (Instr.typeAssert (.iface 213 (.pointer (some a))) 32 70 true).run Try.prog w = .ok (.tuple #[.pointer none, .bool false]) w := fun _ => by kernel_rfl
  have tAssert : ∀ w : World, (Instr.typeAssert (.iface 213 (.pointer (some a))) 32 71 true).run Try.prog w = .ok (.tuple #[.pointer none, .bool false]) w := fun _ => by kernel_rfl
  have tError : ∀ w : World, (Instr.typeAssert (.iface 213 (.pointer (some a))) 32 72 true).run Try.prog w = .ok (.tuple #[.pointer none, .bool false]) w := fun _ => by kernel_rfl
  have tImport : ∀ w : World, (Instr.typeAssert (.iface 213 (.pointer (some a))) 32 73 true).run Try.prog w = .ok (.tuple #[.pointer none, .bool false]) w := fun _ => by kernel_rfl
  have tImportStr : ∀ w : World, (Instr.typeAssert (.iface 213 (.pointer (some a))) 32 74 true).run Try.prog w = .ok (.tuple #[.pointer none, .bool false]) w := fun _ => by kernel_rfl
  have tImportBin : ∀ w : World, (Instr.typeAssert (.iface 213 (.pointer (some a))) 32 75 true).run Try.prog w = .ok (.tuple #[.pointer none, .bool false]) w := fun _ => by kernel_rfl
  have tConditional : ∀ w : World, (Instr.typeAssert (.iface 213 (.pointer (some a))) 32 76 true).run Try.prog w = .ok (.tuple #[.pointer none, .bool false]) w := fun _ => by kernel_rfl
  go_enter Try.func13, Try.ntmps13
  go_wp2_with fail
  go_ret
  exact ⟨rfl, rfl⟩
set_option maxRecDepth 100000 in
theorem precIndex (a : Addr) (w : World) : Calls Try.prog 13 #[.iface 47 (.pointer (some a))] w (fun e w' => e = .returned (.int .i64 (2)) ∧ w = w') := by
  have tApply : ∀ w : World, (Instr.typeAssert (.iface 47 (.pointer (some a))) 32 45 true).run Try.prog w = .ok (.tuple #[.pointer none, .bool false]) w := fun _ => by kernel_rfl
  have tApplyBrace : ∀ w : World, (Instr.typeAssert (.iface 47 (.pointer (some a))) 32 46 true).run Try.prog w = .ok (.tuple #[.pointer none, .bool false]) w := fun _ => by kernel_rfl
  have tIndex : ∀ w : World, (Instr.typeAssert (.iface 47 (.pointer (some a))) 32 47 true).run Try.prog w = .ok (.tuple #[.pointer (some a), .bool true]) w := fun _ => by kernel_rfl
  have tSuperIndex : ∀ w : World, (Instr.typeAssert (.iface 47 (.pointer (some a))) 32 48 true).run Try.prog w = .ok (.tuple #[.pointer none, .bool false]) w := fun _ => by kernel_rfl
  have tSlice : ∀ w : World, (Instr.typeAssert (.iface 47 (.pointer (some a))) 32 49 true).run Try.prog w = .ok (.tuple #[.pointer none, .bool false]) w := fun _ => by kernel_rfl
  go_enter Try.func13, Try.ntmps13
  go_wp2_with fail
  go_ret
  exact ⟨rfl, rfl⟩
set_option maxRecDepth 100000 in
theorem precSlice (a : Addr) (w : World) : Calls Try.prog 13 #[.iface 49 (.pointer (some a))] w (fun e w' => e = .returned (.int .i64 (2)) ∧ w = w') := by
  have tApply : ∀ w : World, (Instr.typeAssert (.iface 49 (.pointer (some a))) 32 45 true).run Try.prog w = .ok (.tuple #[.pointer none, .bool false]) w := fun _ => by kernel_rfl
  have tApplyBrace : ∀ w : World, (Instr.typeAssert (.iface 49 (.pointer (some a))) 32 46 true).run Try.prog w = .ok (.tuple #[.pointer none, .bool false]) w := fun _ => by kernel_rfl
  have tIndex : ∀ w : World, (Instr.typeAssert (.iface 49 (.pointer (some a))) 32 47 true).run Try.prog w = .ok (.tuple #[.pointer none, .bool false]) w := fun _ => by kernel_rfl
  have tSuperIndex : ∀ w : World, (Instr.typeAssert (.iface 49 (.pointer (some a))) 32 48 true).run Try.prog w = .ok (.tuple #[.pointer none, .bool false]) w := fun _ => by kernel_rfl
  have tSlice : ∀ w : World, (Instr.typeAssert (.iface 49 (.pointer (some a))) 32 49 true).run Try.prog w = .ok (.tuple #[.pointer (some a), .bool true]) w := fun _ => by kernel_rfl
  go_enter Try.func13, Try.ntmps13
  go_wp2_with fail
  go_ret
  exact ⟨rfl, rfl⟩
set_option maxRecDepth 100000 in
theorem precApply (a : Addr) (w : World) : Calls Try.prog 13 #[.iface 45 (.pointer (some a))] w (fun e w' => e = .returned (.int .i64 (2)) ∧ w = w') := by
  have tApply : ∀ w : World, (Instr.typeAssert (.iface 45 (.pointer (some a))) 32 45 true).run Try.prog w = .ok (.tuple #[.pointer (some a), .bool true]) w := fun _ => by kernel_rfl
  have tApplyBrace : ∀ w : World, (Instr.typeAssert (.iface 45 (.pointer (some a))) 32 46 true).run Try.prog w = .ok (.tuple #[.pointer none, .bool false]) w := fun _ => by kernel_rfl
  have tIndex : ∀ w : World, (Instr.typeAssert (.iface 45 (.pointer (some a))) 32 47 true).run Try.prog w = .ok (.tuple #[.pointer none, .bool false]) w := fun _ => by kernel_rfl
  have tSuperIndex : ∀ w : World, (Instr.typeAssert (.iface 45 (.pointer (some a))) 32 48 true).run Try.prog w = .ok (.tuple #[.pointer none, .bool false]) w := fun _ => by kernel_rfl
  have tSlice : ∀ w : World, (Instr.typeAssert (.iface 45 (.pointer (some a))) 32 49 true).run Try.prog w = .ok (.tuple #[.pointer none, .bool false]) w := fun _ => by kernel_rfl
  go_enter Try.func13, Try.ntmps13
  go_wp2_with fail
  go_ret
  exact ⟨rfl, rfl⟩
set_option maxRecDepth 100000 in
theorem precFunction (a : Addr) (w : World) : Calls Try.prog 13 #[.iface 138 (.pointer (some a))] w (fun e w' => e = .returned (.int .i64 (1)) ∧ w = w') := by
  have tApply : ∀ w : World, (Instr.typeAssert (.iface 138 (.pointer (some a))) 32 45 true).run Try.prog w = .ok (.tuple #[.pointer none, .bool false]) w := fun _ => by kernel_rfl
  have tApplyBrace : ∀ w : World, (Instr.typeAssert (.iface 138 (.pointer (some a))) 32 46 true).run Try.prog w = .ok (.tuple #[.pointer none, .bool false]) w := fun _ => by kernel_rfl
  have tIndex : ∀ w : World, (Instr.typeAssert (.iface 138 (.pointer (some a))) 32 47 true).run Try.prog w = .ok (.tuple #[.pointer none, .bool false]) w := fun _ => by kernel_rfl
  have tSuperIndex : ∀ w : World, (Instr.typeAssert (.iface 138 (.pointer (some a))) 32 48 true).run Try.prog w = .ok (.tuple #[.pointer none, .bool false]) w := fun _ => by kernel_rfl
  have tSlice : ∀ w : World, (Instr.typeAssert (.iface 138 (.pointer (some a))) 32 49 true).run Try.prog w = .ok (.tuple #[.pointer none, .bool false]) w := fun _ => by kernel_rfl
  have tUnary : ∀ w : World, (Instr.typeAssert (.iface 138 (.pointer (some a))) 32 50 true).run Try.prog w = .ok (.tuple #[.pointer none, .bool false]) w := fun _ => by kernel_rfl
  have tBinary : ∀ w : World, (Instr.typeAssert (.iface 138 (.pointer (some a))) 32 51 true).run Try.prog w = .ok (.tuple #[.pointer none, .bool false]) w := fun _ => by kernel_rfl
  have tInSuper : ∀ w : World, (Instr.typeAssert (.iface 138 (.pointer (some a))) 32 69 true).run Try.prog w = .ok (.tuple #[.pointer none, .bool false]) w := fun _ => by kernel_rfl
  have tLocal : ∀ w : World, (Instr.typeAssert (.iface 138 (.pointer (some a))) 32 70 true).run Try.prog w = .ok (.tuple #[.pointer none, .bool false]) w := fun _ => by kernel_rfl
  have tAssert : ∀ w : World, (Instr.typeAssert (.iface 138 (.pointer (some a))) 32 71 true).run Try.prog w = .ok (.tuple #[.pointer none, .bool false]) w := fun _ => by kernel_rfl
  have tError : ∀ w : World, (Instr.typeAssert (.iface 138 (.pointer (some a))) 32 72 true).run Try.prog w = .ok (.tuple #[.pointer none, .bool false]) w := fun _ => by kernel_rfl
  have tImport : ∀ w : World, (Instr.typeAssert (.iface 138 (.pointer (some a))) 32 73 true).run Try.prog w = .ok (.tuple #[.pointer none, .bool false]) w := fun _ => by kernel_rfl
  have tImportStr : ∀ w : World, (Instr.typeAssert (.iface 138 (.pointer (some a))) 32 74 true).run Try.prog w = .ok (.tuple #[.pointer none, .bool false]) w := fun _ => by kernel_rfl
  have tImportBin : ∀ w : World, (Instr.typeAssert (.iface 138 (.pointer (some a))) 32 75 true).run Try.prog w = .ok (.tuple #[.pointer none, .bool false]) w := fun _ => by kernel_rfl
  have tConditional : ∀ w : World, (Instr.typeAssert (.iface 138 (.pointer (some a))) 32 76 true).run Try.prog w = .ok (.tuple #[.pointer none, .bool false]) w := fun _ => by kernel_rfl
  go_enter Try.func13, Try.ntmps13
  go_wp2_with fail
  go_ret
  exact ⟨rfl, rfl⟩
set_option maxRecDepth 100000 in
theorem precLocal (a : Addr) (w : World) : Calls Try.prog 13 #[.iface 70 (.pointer (some a))] w (fun e w' => e = .returned (.int .i64 (16)) ∧ w = w') := by
  have tApply : ∀ w : World, (Instr.typeAssert (.iface 70 (.pointer (some a))) 32 45 true).run Try.prog w = .ok (.tuple #[.pointer none, .bool false]) w := fun _ => by kernel_rfl
  have tApplyBrace : ∀ w : World, (Instr.typeAssert (.iface 70 (.pointer (some a))) 32 46 true).run Try.prog w = .ok (.tuple #[.pointer none, .bool false]) w := fun _ => by kernel_rfl
  have tIndex : ∀ w : World, (Instr.typeAssert (.iface 70 (.pointer (some a))) 32 47 true).run Try.prog w = .ok (.tuple #[.pointer none, .bool false]) w := fun _ => by kernel_rfl
  have tSuperIndex : ∀ w : World, (Instr.typeAssert (.iface 70 (.pointer (some a))) 32 48 true).run Try.prog w = .ok (.tuple #[.pointer none, .bool false]) w := fun _ => by kernel_rfl
  have tSlice : ∀ w : World, (Instr.typeAssert (.iface 70 (.pointer (some a))) 32 49 true).run Try.prog w = .ok (.tuple #[.pointer none, .bool false]) w := fun _ => by kernel_rfl
  have tUnary : ∀ w : World, (Instr.typeAssert (.iface 70 (.pointer (some a))) 32 50 true).run Try.prog w = .ok (.tuple #[.pointer none, .bool false]) w := fun _ => by kernel_rfl
  have tBinary : ∀ w : World, (Instr.typeAssert (.iface 70 (.pointer (some a))) 32 51 true).run Try.prog w = .ok (.tuple #[.pointer none, .bool false]) w := fun _ => by kernel_rfl
  have tInSuper : ∀ w : World, (Instr.typeAssert (.iface 70 (.pointer (some a))) 32 69 true).run Try.prog w = .ok (.tuple #[.pointer none, .bool false]) w := fun _ => by kernel_rfl
  have tLocal : ∀ w : World, (Instr.typeAssert (.iface 70 (.pointer (some a))) 32 70 true).run Try.prog w = .ok (.tuple #[.pointer (some a), .bool true]) w := fun _ => by kernel_rfl
  have tAssert : ∀ w : World, (Instr.typeAssert (.iface 70 (.pointer (some a))) 32 71 true).run Try.prog w = .ok (.tuple #[.pointer none, .bool false]) w := fun _ => by kernel_rfl
  have tError : ∀ w : World, (Instr.typeAssert (.iface 70 (.pointer (some a))) 32 72 true).run Try.prog w = .ok (.tuple #[.pointer none, .bool false]) w := fun _ => by kernel_rfl
  have tImport : ∀ w : World, (Instr.typeAssert (.iface 70 (.pointer (some a))) 32 73 true).run Try.prog w = .ok (.tuple #[.pointer none, .bool false]) w := fun _ => by kernel_rfl
  have tImportStr : ∀ w : World, (Instr.typeAssert (.iface 70 (.pointer (some a))) 32 74 true).run Try.prog w = .ok (.tuple #[.pointer none, .bool false]) w := fun _ => by kernel_rfl
  have tImportBin : ∀ w : World, (Instr.typeAssert (.iface 70 (.pointer (some a))) 32 75 true).run Try.prog w = .ok (.tuple #[.pointer none, .bool false]) w := fun _ => by kernel_rfl
  have tConditional : ∀ w : World, (Instr.typeAssert (.iface 70 (.pointer (some a))) 32 76 true).run Try.prog w = .ok (.tuple #[.pointer none, .bool false]) w := fun _ => by kernel_rfl
  go_enter Try.func13, Try.ntmps13
  go_wp2_with fail
  go_ret
  exact ⟨rfl, rfl⟩
set_option maxRecDepth 100000 in
theorem precConditional (a : Addr) (w : World) : Calls Try.prog 13 #[.iface 76 (.pointer (some a))] w (fun e w' => e = .returned (.int .i64 (16)) ∧ w = w') := by
  have tApply : ∀ w : World, (Instr.typeAssert (.iface 76 (.pointer (some a))) 32 45 true).run Try.prog w = .ok (.tuple #[.pointer none, .bool false]) w := fun _ => by kernel_rfl
  have tApplyBrace : ∀ w : World, (Instr.typeAssert (.iface 76 (.pointer (some a))) 32 46 true).run Try.prog w = .ok (.tuple #[.pointer none, .bool false]) w := fun _ => by kernel_rfl
  have tIndex : ∀ w : World, (Instr.typeAssert (.iface 76 (.pointer (some a))) 32 47 true).run Try.prog w = .ok (.tuple #[.pointer none, .bool false]) w := fun _ => by kernel_rfl
  have tSuperIndex : ∀ w : World, (Instr.typeAssert (.iface 76 (.pointer (some a))) 32 48 true).run Try.prog w = .ok (.tuple #[.pointer none, .bool false]) w := fun _ => by kernel_rfl
  have tSlice : ∀ w : World, (Instr.typeAssert (.iface 76 (.pointer (some a))) 32 49 true).run Try.prog w = .ok (.tuple #[.pointer none, .bool false]) w := fun _ => by kernel_rfl
  have tUnary : ∀ w : World, (Instr.typeAssert (.iface 76 (.pointer (some a))) 32 50 true).run Try.prog w = .ok (.tuple #[.pointer none, .bool false]) w := fun _ => by kernel_rfl
  have tBinary : ∀ w : World, (Instr.typeAssert (.iface 76 (.pointer (some a))) 32 51 true).run Try.prog w = .ok (.tuple #[.pointer none, .bool false]) w := fun _ => by kernel_rfl
  have tInSuper : ∀ w : World, (Instr.typeAssert (.iface 76 (.pointer (some a))) 32 69 true).run Try.prog w = .ok (.tuple #[.pointer none, .bool false]) w := fun _ => by kernel_rfl
  have tLocal : ∀ w : World, (Instr.typeAssert (.iface 76 (.pointer (some a))) 32 70 true).run Try.prog w = .ok (.tuple #[.pointer none, .bool false]) w := fun _ => by kernel_rfl
  have tAssert : ∀ w : World, (Instr.typeAssert (.iface 76 (.pointer (some a))) 32 71 true).run Try.prog w = .ok (.tuple #[.pointer none, .bool false]) w := fun _ => by kernel_rfl
  have tError : ∀ w : World, (Instr.typeAssert (.iface 76 (.pointer (some a))) 32 72 true).run Try.prog w = .ok (.tuple #[.pointer none, .bool false]) w := fun _ => by kernel_rfl
  have tImport : ∀ w : World, (Instr.typeAssert (.iface 76 (.pointer (some a))) 32 73 true).run Try.prog w = .ok (.tuple #[.pointer none, .bool false]) w := fun _ => by kernel_rfl
  have tImportStr : ∀ w : World, (Instr.typeAssert (.iface 76 (.pointer (some a))) 32 74 true).run Try.prog w = .ok (.tuple #[.pointer none, .bool false]) w := fun _ => by kernel_rfl
  have tImportBin : ∀ w : World, (Instr.typeAssert (.iface 76 (.pointer (some a))) 32 75 true).run Try.prog w = .ok (.tuple #[.pointer none, .bool false]) w := fun _ => by kernel_rfl
  have tConditional : ∀ w : World, (Instr.typeAssert (.iface 76 (.pointer (some a))) 32 76 true).run Try.prog w = .ok (.tuple #[.pointer (some a), .bool true]) w := fun _ => by kernel_rfl
  go_enter Try.func13, Try.ntmps13
  go_wp2_with fail
  go_ret
  exact ⟨rfl, rfl⟩
set_option maxRecDepth 100000 in
theorem precUnary (a : Addr) (w : World) : Calls Try.prog 13 #[.iface 50 (.pointer (some a))] w (fun e w' => e = .returned (.int .i64 (4)) ∧ w = w') := by
  have tApply : ∀ w : World, (Instr.typeAssert (.iface 50 (.pointer (some a))) 32 45 true).run Try.prog w = .ok (.tuple #[.pointer none, .bool false]) w := fun _ => by kernel_rfl
  have tApplyBrace : ∀ w : World, (Instr.typeAssert (.iface 50 (.pointer (some a))) 32 46 true).run Try.prog w = .ok (.tuple #[.pointer none, .bool false]) w := fun _ => by kernel_rfl
  have tIndex : ∀ w : World, (Instr.typeAssert (.iface 50 (.pointer (some a))) 32 47 true).run Try.prog w = .ok (.tuple #[.pointer none, .bool false]) w := fun _ => by kernel_rfl
  have tSuperIndex : ∀ w : World, (Instr.typeAssert (.iface 50 (.pointer (some a))) 32 48 true).run Try.prog w = .ok (.tuple #[.pointer none, .bool false]) w := fun _ => by kernel_rfl
  have tSlice : ∀ w : World, (Instr.typeAssert (.iface 50 (.pointer (some a))) 32 49 true).run Try.prog w = .ok (.tuple #[.pointer none, .bool false]) w := fun _ => by kernel_rfl
  have tUnary : ∀ w : World, (Instr.typeAssert (.iface 50 (.pointer (some a))) 32 50 true).run Try.prog w = .ok (.tuple #[.pointer (some a), .bool true]) w := fun _ => by kernel_rfl
  go_enter Try.func13, Try.ntmps13
  go_wp2_with fail
  go_ret
  exact ⟨rfl, rfl⟩
set_option maxRecDepth 100000 in
theorem precBinary (g : Nat) (w : World) (x : Int) (hx : 0 ≤ x ∧ x ≤ 18) (hc : w.cell? ⟨g, 12, none⟩ = some (.int .i64 x)) : Calls Try.prog 13 #[.iface 51 (.pointer (some ⟨g, 0, none⟩))] w (fun e w' => e = .returned (.int .i64 (precB x)) ∧ w = w') := by
  have tApply : ∀ w : World, (Instr.typeAssert (.iface 51 (.pointer (some ⟨g, 0, none⟩))) 32 45 true).run Try.prog w = .ok (.tuple #[.pointer none, .bool false]) w := fun _ => by kernel_rfl
  have tApplyBrace : ∀ w : World, (Instr.typeAssert (.iface 51 (.pointer (some ⟨g, 0, none⟩))) 32 46 true).run Try.prog w = .ok (.tuple #[.pointer none, .bool false]) w := fun _ => by kernel_rfl
  have tIndex : ∀ w : World, (Instr.typeAssert (.iface 51 (.pointer (some ⟨g, 0, none⟩))) 32 47 true).run Try.prog w = .ok (.tuple #[.pointer none, .bool false]) w := fun _ => by kernel_rfl
  have tSuperIndex : ∀ w : World, (Instr.typeAssert (.iface 51 (.pointer (some ⟨g, 0, none⟩))) 32 48 true).run Try.prog w = .ok (.tuple #[.pointer none, .bool false]) w := fun _ => by kernel_rfl
  have tSlice : ∀ w : World, (Instr.typeAssert (.iface 51 (.pointer (some ⟨g, 0, none⟩))) 32 49 true).run Try.prog w = .ok (.tuple #[.pointer none, .bool false]) w := fun _ => by kernel_rfl
  have tUnary : ∀ w : World, (Instr.typeAssert (.iface 51 (.pointer (some ⟨g, 0, none⟩))) 32 50 true).run Try.prog w = .ok (.tuple #[.pointer none, .bool false]) w := fun _ => by kernel_rfl
  have tBinary : ∀ w : World, (Instr.typeAssert (.iface 51 (.pointer (some ⟨g, 0, none⟩))) 32 51 true).run Try.prog w = .ok (.tuple #[.pointer (some ⟨g, 0, none⟩), .bool true]) w := fun _ => by kernel_rfl
  have K := Lib.hid (bopPrec_any x w hx)
  go_enter Try.func13, Try.ntmps13
  go_wp2_with fail
  refine K.out.mono ?_
  rintro e1 w1 ⟨rfl, rfl⟩
  go_wp2_with fail
  go_ret
  exact ⟨rfl, rfl⟩
set_option maxRecDepth 100000 in
theorem precError (a : Addr) (w : World) : Calls Try.prog 13 #[.iface 72 (.pointer (some a))] w (fun e w' => e = .returned (.int .i64 (16)) ∧ w = w') := by
  have tApply : ∀ w : World, (Instr.typeAssert (.iface 72 (.pointer (some a))) 32 45 true).run Try.prog w = .ok (.tuple #[.pointer none, .bool false]) w := fun _ => by kernel_rfl
  have tApplyBrace : ∀ w : World, (Instr.typeAssert (.iface 72 (.pointer (some a))) 32 46 true).run Try.prog w = .ok (.tuple #[.pointer none, .bool false]) w := fun _ => by kernel_rfl
  have tIndex : ∀ w : World, (Instr.typeAssert (.iface 72 (.pointer (some a))) 32 47 true).run Try.prog w = .ok (.tuple #[.pointer none, .bool false]) w := fun _ => by kernel_rfl
  have tSuperIndex : ∀ w : World, (Instr.typeAssert (.iface 72 (.pointer (some a))) 32 48 true).run Try.prog w = .ok (.tuple #[.pointer none, .bool false]) w := fun _ => by kernel_rfl
  have tSlice : ∀ w : World, (Instr.typeAssert (.iface 72 (.pointer (some a))) 32 49 true).run Try.prog w = .ok (.tuple #[.pointer none, .bool false]) w := fun _ => by kernel_rfl
  have tUnary : ∀ w : World, (Instr.typeAssert (.iface 72 (.pointer (some a))) 32 50 true).run Try.prog w = .ok (.tuple #[.pointer none, .bool false]) w := fun _ => by kernel_rfl
  have tBinary : ∀ w : World, (Instr.typeAssert (.iface 72 (.pointer (some a))) 32 51 true).run Try.prog w = .ok (.tuple #[.pointer none, .bool false]) w := fun _ => by kernel_rfl
  have tInSuper : ∀ w : World, (Instr.typeAssert (.iface 72 (.pointer (some a))) 32 69 true).run Try.prog w = .ok (.tuple #[.pointer none, .bool false]) w := fun _ => by kernel_rfl
  have tLocal : ∀ w : World, (Instr.typeAssert (.iface 72 (.pointer (some a))) 32 70 true).run Try.prog w = .ok (.tuple #[.pointer none, .bool false]) w := fun _ => by kernel_rfl
  have tAssert : ∀ w : World, (Instr.typeAssert (.iface 72 (.pointer (some a))) 32 71 true).run Try.prog w = .ok (.tuple #[.pointer none, .bool false]) w := fun _ => by kernel_rfl
  have tError : ∀ w : World, (Instr.typeAssert (.iface 72 (.pointer (some a))) 32 72 true).run Try.prog w = .ok (.tuple #[.pointer (some a), .bool true]) w := fun _ => by kernel_rfl
  have tImport : ∀ w : World, (Instr.typeAssert (.iface 72 (.pointer (some a))) 32 73 true).run Try.prog w = .ok (.tuple #[.pointer none, .bool false]) w := fun _ => by kernel_rfl
  have tImportStr : ∀ w : World, (Instr.typeAssert (.iface 72 (.pointer (some a))) 32 74 true).run Try.prog w = .ok (.tuple #[.pointer none, .bool false]) w := fun _ => by kernel_rfl
  have tImportBin : ∀ w : World, (Instr.typeAssert (.iface 72 (.pointer (some a))) 32 75 true).run Try.prog w = .ok (.tuple #[.pointer none, .bool false]) w := fun _ => by kernel_rfl
  have tConditional : ∀ w : World, (Instr.typeAssert (.iface 72 (.pointer (some a))) 32 76 true).run Try.prog w = .ok (.tuple #[.pointer none, .bool false]) w := fun _ => by kernel_rfl
  go_enter Try.func13, Try.ntmps13
  go_wp2_with fail
  go_ret
  exact ⟨rfl, rfl⟩
set_option maxRecDepth 100000 in
theorem precAssert (a : Addr) (w : World) : Calls Try.prog 13 #[.iface 71 (.pointer (some a))] w (fun e w' => e = .returned (.int .i64 (16)) ∧ w = w') := by
  have tApply : ∀ w : World, (Instr.typeAssert (.iface 71 (.pointer (some a))) 32 45 true).run Try.prog w = .ok (.tuple #[.pointer none, .bool false]) w := fun _ => by kernel_rfl
  have tApplyBrace : ∀ w : World, (Instr.typeAssert (.iface 71 (.pointer (some a))) 32 46 true).run Try.prog w = .ok (.tuple #[.pointer none, .bool false]) w := fun _ => by kernel_rfl
  have tIndex : ∀ w : World, (Instr.typeAssert (.iface 71 (.pointer (some a))) 32 47 true).run Try.prog w = .ok (.tuple #[.pointer none, .bool false]) w := fun _ => by kernel_rfl
  have tSuperIndex : ∀ w : World, (Instr.typeAssert (.iface 71 (.pointer (some a))) 32 48 true).run Try.prog w = .ok (.tuple #[.pointer none, .bool false]) w := fun _ => by kernel_rfl
  have tSlice : ∀ w : World, (Instr.typeAssert (.iface 71 (.pointer (some a))) 32 49 true).run Try.prog w = .ok (.tuple #[.pointer none, .bool false]) w := fun _ => by kernel_rfl
  have tUnary : ∀ w : World, (Instr.typeAssert (.iface 71 (.pointer (some a))) 32 50 true).run Try.prog w = .ok (.tuple #[.pointer none, .bool false]) w := fun _ => by kernel_rfl
  have tBinary : ∀ w : World, (Instr.typeAssert (.iface 71 (.pointer (some a))) 32 51 true).run Try.prog w = .ok (.tuple #[.pointer none, .bool false]) w := fun _ => by kernel_rfl
  have tInSuper : ∀ w : World, (Instr.typeAssert (.iface 71 (.pointer (some a))) 32 69 true).run Try.prog w = .ok (.tuple #[.pointer none, .bool false]) w := fun _ => by kernel_rfl
  have tLocal : ∀ w : World, (Instr.typeAssert (.iface 71 (.pointer (some a))) 32 70 true).run Try.prog w = .ok (.tuple #[.pointer none, .bool false]) w := fun _ => by kernel_rfl
  have tAssert : ∀ w : World, (Instr.typeAssert (.iface 71 (.pointer (some a))) 32 71 true).run Try.prog w = .ok (.tuple #[.pointer (some a), .bool true]) w := fun _ => by kernel_rfl
  have tError : ∀ w : World, (Instr.typeAssert (.iface 71 (.pointer (some a))) 32 72 true).run Try.prog w = .ok (.tuple #[.pointer none, .bool false]) w := fun _ => by kernel_rfl
  have tImport : ∀ w : World, (Instr.typeAssert (.iface 71 (.pointer (some a))) 32 73 true).run Try.prog w = .ok (.tuple #[.pointer none, .bool false]) w := fun _ => by kernel_rfl
  have tImportStr : ∀ w : World, (Instr.typeAssert (.iface 71 (.pointer (some a))) 32 74 true).run Try.prog w = .ok (.tuple #[.pointer none, .bool false]) w := fun _ => by kernel_rfl
  have tImportBin : ∀ w : World, (Instr.typeAssert (.iface 71 (.pointer (some a))) 32 75 true).run Try.prog w = .ok (.tuple #[.pointer none, .bool false]) w := fun _ => by kernel_rfl
  have tConditional : ∀ w : World, (Instr.typeAssert (.iface 71 (.pointer (some a))) 32 76 true).run Try.prog w = .ok (.tuple #[.pointer none, .bool false]) w := fun _ => by kernel_rfl
  go_enter Try.func13, Try.ntmps13
  go_wp2_with fail
  go_ret
  exact ⟨rfl, rfl⟩
set_option maxRecDepth 100000 in
theorem precImport (a : Addr) (w : World) : Calls Try.prog 13 #[.iface 73 (.pointer (some a))] w (fun e w' => e = .returned (.int .i64 (16)) ∧ w = w') := by
  have tApply : ∀ w : World, (Instr.typeAssert (.iface 73 (.pointer (some a))) 32 45 true).run Try.prog w = .ok (.tuple #[.pointer none, .bool false]) w := fun _ => by kernel_rfl
  have tApplyBrace : ∀ w : World, (Instr.typeAssert (.iface 73 (.pointer (some a))) 32 46 true).run Try.prog w = .ok (.tuple #[.pointer none, .bool false]) w := fun _ => by kernel_rfl
  have tIndex : ∀ w : World, (Instr.typeAssert (.iface 73 (.pointer (some a))) 32 47 true).run Try.prog w = .ok (.tuple #[.pointer none, .bool false]) w := fun _ => by kernel_rfl
  have tSuperIndex : ∀ w : World, (Instr.typeAssert (.iface 73 (.pointer (some a))) 32 48 true).run Try.prog w = .ok (.tuple #[.pointer none, .bool false]) w := fun _ => by kernel_rfl
  have tSlice : ∀ w : World, (Instr.typeAssert (.iface 73 (.pointer (some a))) 32 49 true).run Try.prog w = .ok (.tuple #[.pointer none, .bool false]) w := fun _ => by kernel_rfl
  have tUnary : ∀ w : World, (Instr.typeAssert (.iface 73 (.pointer (some a))) 32 50 true).run Try.prog w = .ok (.tuple #[.pointer none, .bool false]) w := fun _ => by kernel_rfl
  have tBinary : ∀ w : World, (Instr.typeAssert (.iface 73 (.pointer (some a))) 32 51 true).run Try.prog w = .ok (.tuple #[.pointer none, .bool false]) w := fun _ => by kernel_rfl
  have tInSuper : ∀ w : World, (Instr.typeAssert (.iface 73 (.pointer (some a))) 32 69 true).run Try.prog w = .ok (.tuple #[.pointer none, .bool false]) w := fun _ => by kernel_rfl
  have tLocal : ∀ w : World, (Instr.typeAssert (.iface 73 (.pointer (some a))) 32 70 true).run Try.prog w = .ok (.tuple #[.pointer none, .bool false]) w := fun _ => by kernel_rfl
  have tAssert : ∀ w : World, (Instr.typeAssert (.iface 73 (.pointer (some a))) 32 71 true).run Try.prog w = .ok (.tuple #[.pointer none, .bool false]) w := fun _ => by kernel_rfl
  have tError : ∀ w : World, (Instr.typeAssert (.iface 73 (.pointer (some a))) 32 72 true).run Try.prog w = .ok (.tuple #[.pointer none, .bool false]) w := fun _ => by kernel_rfl
  have tImport : ∀ w : World, (Instr.typeAssert (.iface 73 (.pointer (some a))) 32 73 true).run Try.prog w = .ok (.tuple #[.pointer (some a), .bool true]) w := fun _ => by kernel_rfl
  have tImportStr : ∀ w : World, (Instr.typeAssert (.iface 73 (.pointer (some a))) 32 74 true).run Try.prog w = .ok (.tuple #[.pointer none, .bool false]) w := fun _ => by kernel_rfl
  have tImportBin : ∀ w : World, (Instr.typeAssert (.iface 73 (.pointer (some a))) 32 75 true).run Try.prog w = .ok (.tuple #[.pointer none, .bool false]) w := fun _ => by kernel_rfl
  have tConditional : ∀ w : World, (Instr.typeAssert (.iface 73 (.pointer (some a))) 32 76 true).run Try.prog w = .ok (.tuple #[.pointer none, .bool false]) w := fun _ => by kernel_rfl
  go_enter Try.func13, Try.ntmps13
  go_wp2_with fail
  go_ret
  exact ⟨rfl, rfl⟩
set_option maxRecDepth 100000 in
theorem precImportStr (a : Addr) (w : World) : Calls Try.prog 13 #[.iface 74 (.pointer (some a))] w (fun e w' => e = .returned (.int .i64 (16)) ∧ w = w') := by
  have tApply : ∀ w : World, (Instr.typeAssert (.iface 74 (.pointer (some a))) 32 45 true).run Try.prog w = .ok (.tuple #[.pointer none, .bool false]) w := fun _ => by kernel_rfl
  have tApplyBrace : ∀ w : World, (Instr.typeAssert (.iface 74 (.pointer (some a))) 32 46 true).run Try.prog w = .ok (.tuple #[.pointer none, .bool false]) w := fun _ => by kernel_rfl
  have tIndex : ∀ w : World, (Instr.typeAssert (.iface 74 (.pointer (some a))) 32 47 true).run Try.prog w = .ok (.tuple #[.pointer none, .bool false]) w := fun _ => by kernel_rfl
  have tSuperIndex : ∀ w : World, (Instr.typeAssert (.iface 74 (.pointer (some a))) 32 48 true).run Try.prog w = .ok (.tuple #[.pointer none, .bool false]) w := fun _ => by kernel_rfl
  have tSlice : ∀ w : World, (Instr.typeAssert (.iface 74 (.pointer (some a))) 32 49 true).run Try.prog w = .ok (.tuple #[.pointer none, .bool false]) w := fun _ => by kernel_rfl
  have tUnary : ∀ w : World, (Instr.typeAssert (.iface 74 (.pointer (some a))) 32 50 true).run Try.prog w = .ok (.tuple #[.pointer none, .bool false]) w := fun _ => by kernel_rfl
  have tBinary : ∀ w : World, (Instr.typeAssert (.iface 74 (.pointer (some a))) 32 51 true).run Try.prog w = .ok (.tuple #[.pointer none, .bool false]) w := fun _ => by kernel_rfl
  have tInSuper : ∀ w : World, (Instr.typeAssert (.iface 74 (.pointer (some a))) 32 69 true).run Try.prog w = .ok (.tuple #[.pointer none, .bool false]) w := fun _ => by kernel_rfl
  have tLocal : ∀ w : World, (Instr.typeAssert (.iface 74 (.pointer (some a))) 32 70 true).run Try.prog w = .ok (.tuple #[.pointer none, .bool false]) w := fun _ => by kernel_rfl
  have tAssert : ∀ w : World, (Instr.typeAssert (.iface 74 (.pointer (some a))) 32 71 true).run Try.prog w = .ok (.tuple #[.pointer none, .bool false]) w := fun _ => by kernel_rfl
  have tError : ∀ w : World, (Instr.typeAssert (.iface 74 (.pointer (some a))) 32 72 true).run Try.prog w = .ok (.tuple #[.pointer none, .bool false]) w := fun _ => by kernel_rfl
  have tImport : ∀ w : World, (Instr.typeAssert (.iface 74 (.pointer (some a))) 32 73 true).run Try.prog w = .ok (.tuple #[.pointer none, .bool false]) w := fun _ => by kernel_rfl
  have tImportStr : ∀ w : World, (Instr.typeAssert (.iface 74 (.pointer (some a))) 32 74 true).run Try.prog w = .ok (.tuple #[.pointer (some a), .bool true]) w := fun _ => by kernel_rfl
  have tImportBin : ∀ w : World, (Instr.typeAssert (.iface 74 (.pointer (some a))) 32 75 true).run Try.prog w = .ok (.tuple #[.pointer none, .bool false]) w := fun _ => by kernel_rfl
  have tConditional : ∀ w : World, (Instr.typeAssert (.iface 74 (.pointer (some a))) 32 76 true).run Try.prog w = .ok (.tuple #[.pointer none, .bool false]) w := fun _ => by kernel_rfl
  go_enter Try.func13, Try.ntmps13
  go_wp2_with fail
  go_ret
  exact ⟨rfl, rfl⟩
set_option maxRecDepth 100000 in
theorem precImportBin (a : Addr) (w : World) : Calls Try.prog 13 #[.iface 75 (.pointer (some a))] w (fun e w' => e = .returned (.int .i64 (16)) ∧ w = w') := by
  have tApply : ∀ w : World, (Instr.typeAssert (.iface 75 (.pointer (some a))) 32 45 true).run Try.prog w = .ok (.tuple #[.pointer none, .bool false]) w := fun _ => by kernel_rfl
  have tApplyBrace : ∀ w : World, (Instr.typeAssert (.iface 75 (.pointer (some a))) 32 46 true).run Try.prog w = .ok (.tuple #[.pointer none, .bool false]) w := fun _ => by kernel_rfl
  have tIndex : ∀ w : World, (Instr.typeAssert (.iface 75 (.pointer (some a))) 32 47 true).run Try.prog w = .ok (.tuple #[.pointer none, .bool false]) w := fun _ => by kernel_rfl
  have tSuperIndex : ∀ w : World, (Instr.typeAssert (.iface 75 (.pointer (some a))) 32 48 true).run Try.prog w = .ok (.tuple #[.pointer none, .bool false]) w := fun _ => by kernel_rfl
  have tSlice : ∀ w : World, (Instr.typeAssert (.iface 75 (.pointer (some a))) 32 49 true).run Try.prog w = .ok (.tuple #[.pointer none, .bool false]) w := fun _ => by kernel_rfl
  have tUnary : ∀ w : World, (Instr.typeAssert (.iface 75 (.pointer (some a))) 32 50 true).run Try.prog w = .ok (.tuple #[.pointer none, .bool false]) w := fun _ => by kernel_rfl
  have tBinary : ∀ w : World, (Instr.typeAssert (.iface 75 (.pointer (some a))) 32 51 true).run Try.prog w = .ok (.tuple #[.pointer none, .bool false]) w := fun _ => by kernel_rfl
  have tInSuper : ∀ w : World, (Instr.typeAssert (.iface 75 (.pointer (some a))) 32 69 true).run Try.prog w = .ok (.tuple #[.pointer none, .bool false]) w := fun _ => by kernel_rfl
  have tLocal : ∀ w : World, (Instr.typeAssert (.iface 75 (.pointer (some a))) 32 70 true).run Try.prog w = .ok (.tuple #[.pointer none, .bool false]) w := fun _ => by kernel_rfl
  have tAssert : ∀ w : World, (Instr.typeAssert (.iface 75 (.pointer (some a))) 32 71 true).run Try.prog w = .ok (.tuple #[.pointer none, .bool false]) w := fun _ => by kernel_rfl
  have tError : ∀ w : World, (Instr.typeAssert (.iface 75 (.pointer (some a))) 32 72 true).run Try.prog w = .ok (.tuple #[.pointer none, .bool false]) w := fun _ => by kernel_rfl
  have tImport : ∀ w : World, (Instr.typeAssert (.iface 75 (.pointer (some a))) 32 73 true).run Try.prog w = .ok (.tuple #[.pointer none, .bool false]) w := fun _ => by kernel_rfl
  have tImportStr : ∀ w : World, (Instr.typeAssert (.iface 75 (.pointer (some a))) 32 74 true).run Try.prog w = .ok (.tuple #[.pointer none, .bool false]) w := fun _ => by kernel_rfl
  have tImportBin : ∀ w : World, (Instr.typeAssert (.iface 75 (.pointer (some a))) 32 75 true).run Try.prog w = .ok (.tuple #[.pointer (some a), .bool true]) w := fun _ => by kernel_rfl
  have tConditional : ∀ w : World, (Instr.typeAssert (.iface 75 (.pointer (some a))) 32 76 true).run Try.prog w = .ok (.tuple #[.pointer none, .bool false]) w := fun _ => by kernel_rfl
  go_enter Try.func13, Try.ntmps13
  go_wp2_with fail
  go_ret
  exact ⟨rfl, rfl⟩
set_option maxRecDepth 100000 in
theorem precApplyBrace (a : Addr) (w : World) : Calls Try.prog 13 #[.iface 46 (.pointer (some a))] w (fun e w' => e = .returned (.int .i64 (2)) ∧ w = w') := by
  have tApply : ∀ w : World, (Instr.typeAssert (.iface 46 (.pointer (some a))) 32 45 true).run Try.prog w = .ok (.tuple #[.pointer none, .bool false]) w := fun _ => by kernel_rfl
  have tApplyBrace : ∀ w : World, (Instr.typeAssert (.iface 46 (.pointer (some a))) 32 46 true).run Try.prog w = .ok (.tuple #[.pointer (some a), .bool true]) w := fun _ => by kernel_rfl
  have tIndex : ∀ w : World, (Instr.typeAssert (.iface 46 (.pointer (some a))) 32 47 true).run Try.prog w = .ok (.tuple #[.pointer none, .bool false]) w := fun _ => by kernel_rfl
  have tSuperIndex : ∀ w : World, (Instr.typeAssert (.iface 46 (.pointer (some a))) 32 48 true).run Try.prog w = .ok (.tuple #[.pointer none, .bool false]) w := fun _ => by kernel_rfl
  have tSlice : ∀ w : World, (Instr.typeAssert (.iface 46 (.pointer (some a))) 32 49 true).run Try.prog w = .ok (.tuple #[.pointer none, .bool false]) w := fun _ => by kernel_rfl
  go_enter Try.func13, Try.ntmps13
  go_wp2_with fail
  go_ret
  exact ⟨rfl, rfl⟩
set_option maxRecDepth 100000 in
theorem precParens (a : Addr) (w : World) : Calls Try.prog 13 #[.iface 168 (.pointer (some a))] w (fun e w' => e = .returned (.int .i64 (1)) ∧ w = w') := by
  have tApply : ∀ w : World, (Instr.typeAssert (.iface 168 (.pointer (some a))) 32 45 true).run Try.prog w = .ok (.tuple #[.pointer none, .bool false]) w := fun _ => by kernel_rfl
  have tApplyBrace : ∀ w : World, (Instr.typeAssert (.iface 168 (.pointer (some a))) 32 46 true).run Try.prog w = .ok (.tuple #[.pointer none, .bool false]) w := fun _ => by kernel_rfl
  have tIndex : ∀ w : World, (Instr.typeAssert (.iface 168 (.pointer (some a))) 32 47 true).run Try.prog w = .ok (.tuple #[.pointer none, .bool false]) w := fun _ => by kernel_rfl
  have tSuperIndex : ∀ w : World, (Instr.typeAssert (.iface 168 (.pointer (some a))) 32 48 true).run Try.prog w = .ok (.tuple #[.pointer none, .bool false]) w := fun _ => by kernel_rfl
  have tSlice : ∀ w : World, (Instr.typeAssert (.iface 168 (.pointer (some a))) 32 49 true).run Try.prog w = .ok (.tuple #[.pointer none, .bool false]) w := fun _ => by kernel_rfl
  have tUnary : ∀ w : World, (Instr.typeAssert (.iface 168 (.pointer (some a))) 32 50 true).run Try.prog w = .ok (.tuple #[.pointer none, .bool false]) w := fun _ => by kernel_rfl
  have tBinary : ∀ w : World, (Instr.typeAssert (.iface 168 (.pointer (some a))) 32 51 true).run Try.prog w = .ok (.tuple #[.pointer none, .bool false]) w := fun _ => by kernel_rfl
  have tInSuper : ∀ w : World, (Instr.typeAssert (.iface 168 (.pointer (some a))) 32 69 true).run Try.prog w = .ok (.tuple #[.pointer none, .bool false]) w := fun _ => by kernel_rfl
  have tLocal : ∀ w : World, (Instr.typeAssert (.iface 168 (.pointer (some a))) 32 70 true).run Try.prog w = .ok (.tuple #[.pointer none, .bool false]) w := fun _ => by kernel_rfl
  have tAssert : ∀ w : World, (Instr.typeAssert (.iface 168 (.pointer (some a))) 32 71 true).run Try.prog w = .ok (.tuple #[.pointer none, .bool false]) w := fun _ => by kernel_rfl
  have tError : ∀ w : World, (Instr.typeAssert (.iface 168 (.pointer (some a))) 32 72 true).run Try.prog w = .ok (.tuple #[.pointer none, .bool false]) w := fun _ => by kernel_rfl
  have tImport : ∀ w : World, (Instr.typeAssert (.iface 168 (.pointer (some a))) 32 73 true).run Try.prog w = .ok (.tuple #[.pointer none, .bool false]) w := fun _ => by kernel_rfl
  have tImportStr : ∀ w : World, (Instr.typeAssert (.iface 168 (.pointer (some a))) 32 74 true).run Try.prog w = .ok (.tuple #[.pointer none, .bool false]) w := fun _ => by kernel_rfl
  have tImportBin : ∀ w : World, (Instr.typeAssert (.iface 168 (.pointer (some a))) 32 75 true).run Try.prog w = .ok (.tuple #[.pointer none, .bool false]) w := fun _ => by kernel_rfl
  have tConditional : ∀ w : World, (Instr.typeAssert (.iface 168 (.pointer (some a))) 32 76 true).run Try.prog w = .ok (.tuple #[.pointer none, .bool false]) w := fun _ => by kernel_rfl
  go_enter Try.func13, Try.ntmps13
  go_wp2_with fail
  go_ret
  exact ⟨rfl, rfl⟩
end Go.Proofs.Ytdhhdnopilfifaa
