/-
  Precedence's answer by kind; Level, rank, odd. (Printed by wip/gen_rank.py.)
-/
import Derived.Test.YtdhhdnopilfifaaPrBuild
namespace Go.Proofs.Ytdhhdnopilfifaa
open Go.RowKit

def precK (k op : Int) : Int := if k = 23 then precB (bopI op) else if k = 22 then 4 else if k = 10 then 8 else if [9, 15, 16, 17, 18, 29].contains k then 2 else if [20, 21, 24, 25, 26, 27, 28].contains k then 16 else 1
theorem bopI_in (op : Int) (h : 1 ≤ op ∧ op ≤ 19) : 0 ≤ bopI op ∧ bopI op ≤ 18 := by
  have hc : op = 1 ∨ op = 2 ∨ op = 3 ∨ op = 4 ∨ op = 5 ∨ op = 6 ∨ op = 7 ∨ op = 8 ∨ op = 9 ∨ op = 10 ∨ op = 11 ∨ op = 12 ∨ op = 13 ∨ op = 14 ∨ op = 15 ∨ op = 16 ∨ op = 17 ∨ op = 18 ∨ op = 19 := by omega
  rcases hc with rfl | rfl | rfl | rfl | rfl | rfl | rfl | rfl | rfl | rfl | rfl | rfl | rfl | rfl | rfl | rfl | rfl | rfl | rfl <;> decide
theorem kinds30 (k : Int) (h1 : 1 ≤ k) (h2 : k ≤ 30) : k = 1 ∨ k = 2 ∨ k = 3 ∨ k = 4 ∨ k = 5 ∨ k = 6 ∨ k = 7 ∨ k = 8 ∨ k = 9 ∨ k = 10 ∨ k = 11 ∨ k = 12 ∨ k = 13 ∨ k = 14 ∨ k = 15 ∨ k = 16 ∨ k = 17 ∨ k = 18 ∨ k = 19 ∨ k = 20 ∨ k = 21 ∨ k = 22 ∨ k = 23 ∨ k = 24 ∨ k = 25 ∨ k = 26 ∨ k = 27 ∨ k = 28 ∨ k = 29 ∨ k = 30 := by omega
theorem prec_of (k op : Int) (h1 : 1 ≤ k) (h2 : k ≤ 30) (ho : k = 23 → 1 ≤ op ∧ op ≤ 19) (g : Nat) (w : World) (hc : k = 23 → w.cell? ⟨g, 12, none⟩ = some (.int .i64 (bopI op))) :
    Calls Try.prog 13 #[.iface (tyOf k) (.pointer (some ⟨g, 0, none⟩))] w (fun e w' => e = .returned (.int .i64 (precK k op)) ∧ w = w') := by
  rcases kinds30 k h1 h2 with rfl | rfl | rfl | rfl | rfl | rfl | rfl | rfl | rfl | rfl | rfl | rfl | rfl | rfl | rfl | rfl | rfl | rfl | rfl | rfl | rfl | rfl | rfl | rfl | rfl | rfl | rfl | rfl | rfl | rfl
  · exact precLiteralNull _ w
  · exact precLiteralBoolean _ w
  · exact precLiteralBoolean _ w
  · exact precLiteralNumber _ w
  · exact precLiteralString _ w
  · exact precSelf _ w
  · exact precDollar _ w
  · exact precVar _ w
  · exact precSuperIndex _ w
  · exact precInSuper _ w
  · exact precArray _ w
  · exact precArrayComp _ w
  · exact precObject _ w
  · exact precObjectComp _ w
  · exact precIndex _ w
  · exact precIndex _ w
  · exact precSlice _ w
  · exact precApply _ w
  · exact precFunction _ w
  · exact precLocal _ w
  · exact precConditional _ w
  · exact precUnary _ w
  · exact precBinary g w (bopI op) (bopI_in op (ho rfl)) (hc rfl)
  · exact precError _ w
  · exact precAssert _ w
  · exact precImport _ w
  · exact precImportStr _ w
  · exact precImportBin _ w
  · exact precApplyBrace _ w
  · exact precParens _ w
def lvls : List Int := [0, 3, 3, 3, 4, 4, 5, 5, 6, 6, 6, 6, 6, 7, 7, 8, 9, 10, 11, 12]
def levelK (k op : Int) : Int := if k = 22 then 2 else if k = 10 then 6 else if k = 23 then lvls.getD op.toNat 0 else if [20, 21, 19, 25, 24, 26, 27, 28].contains k then 13 else 1
def rankK (k op : Int) : Int := if [15, 16, 17, 18, 9].contains k then 1 else if 1 < levelK k op then levelK k op else 0
def oddK (k : Int) : Bool := k == 29 || k == 10 || k == 25 || k == 19
def LvPost (v : Int) (w : World) (e : Ending) (w' : World) : Prop := e = .returned (.int .i64 v) ∧ Below w.heap.size w w'
theorem level22 (op : Int) (tx : ByteArray) (fl sz : Int) (w : World) : Calls Try.prog 14 #[.agg #[.int .i64 22, .int .i64 op, .string tx, .int .i64 fl, .int .i64 sz]] w (LvPost (levelK 22 op) w) := by
  have HB := Lib.hid (belowS_alloc (Below.refl w.heap.size w) (.cells #[.int .i64 22, .int .i64 op, .string tx, .int .i64 fl, .int .i64 sz] 26))
  go_enter Try.func14, Try.ntmps14
  go_wp2_with fail
  go_ret
  exact ⟨rfl, HB.out⟩
theorem level10 (op : Int) (tx : ByteArray) (fl sz : Int) (w : World) : Calls Try.prog 14 #[.agg #[.int .i64 10, .int .i64 op, .string tx, .int .i64 fl, .int .i64 sz]] w (LvPost (levelK 10 op) w) := by
  have HB := Lib.hid (belowS_alloc (Below.refl w.heap.size w) (.cells #[.int .i64 10, .int .i64 op, .string tx, .int .i64 fl, .int .i64 sz] 26))
  go_enter Try.func14, Try.ntmps14
  go_wp2_with fail
  go_ret
  exact ⟨rfl, HB.out⟩
theorem level20 (op : Int) (tx : ByteArray) (fl sz : Int) (w : World) : Calls Try.prog 14 #[.agg #[.int .i64 20, .int .i64 op, .string tx, .int .i64 fl, .int .i64 sz]] w (LvPost (levelK 20 op) w) := by
  have HB := Lib.hid (belowS_alloc (Below.refl w.heap.size w) (.cells #[.int .i64 20, .int .i64 op, .string tx, .int .i64 fl, .int .i64 sz] 26))
  go_enter Try.func14, Try.ntmps14
  go_wp2_with fail
  go_ret
  exact ⟨rfl, HB.out⟩
theorem level21 (op : Int) (tx : ByteArray) (fl sz : Int) (w : World) : Calls Try.prog 14 #[.agg #[.int .i64 21, .int .i64 op, .string tx, .int .i64 fl, .int .i64 sz]] w (LvPost (levelK 21 op) w) := by
  have HB := Lib.hid (belowS_alloc (Below.refl w.heap.size w) (.cells #[.int .i64 21, .int .i64 op, .string tx, .int .i64 fl, .int .i64 sz] 26))
  go_enter Try.func14, Try.ntmps14
  go_wp2_with fail
  go_ret
  exact ⟨rfl, HB.out⟩
theorem level19 (op : Int) (tx : ByteArray) (fl sz : Int) (w : World) : Calls Try.prog 14 #[.agg #[.int .i64 19, .int .i64 op, .string tx, .int .i64 fl, .int .i64 sz]] w (LvPost (levelK 19 op) w) := by
  have HB := Lib.hid (belowS_alloc (Below.refl w.heap.size w) (.cells #[.int .i64 19, .int .i64 op, .string tx, .int .i64 fl, .int .i64 sz] 26))
  go_enter Try.func14, Try.ntmps14
  go_wp2_with fail
  go_ret
  exact ⟨rfl, HB.out⟩
theorem level25 (op : Int) (tx : ByteArray) (fl sz : Int) (w : World) : Calls Try.prog 14 #[.agg #[.int .i64 25, .int .i64 op, .string tx, .int .i64 fl, .int .i64 sz]] w (LvPost (levelK 25 op) w) := by
  have HB := Lib.hid (belowS_alloc (Below.refl w.heap.size w) (.cells #[.int .i64 25, .int .i64 op, .string tx, .int .i64 fl, .int .i64 sz] 26))
  go_enter Try.func14, Try.ntmps14
  go_wp2_with fail
  go_ret
  exact ⟨rfl, HB.out⟩
theorem level24 (op : Int) (tx : ByteArray) (fl sz : Int) (w : World) : Calls Try.prog 14 #[.agg #[.int .i64 24, .int .i64 op, .string tx, .int .i64 fl, .int .i64 sz]] w (LvPost (levelK 24 op) w) := by
  have HB := Lib.hid (belowS_alloc (Below.refl w.heap.size w) (.cells #[.int .i64 24, .int .i64 op, .string tx, .int .i64 fl, .int .i64 sz] 26))
  go_enter Try.func14, Try.ntmps14
  go_wp2_with fail
  go_ret
  exact ⟨rfl, HB.out⟩
theorem level26 (op : Int) (tx : ByteArray) (fl sz : Int) (w : World) : Calls Try.prog 14 #[.agg #[.int .i64 26, .int .i64 op, .string tx, .int .i64 fl, .int .i64 sz]] w (LvPost (levelK 26 op) w) := by
  have HB := Lib.hid (belowS_alloc (Below.refl w.heap.size w) (.cells #[.int .i64 26, .int .i64 op, .string tx, .int .i64 fl, .int .i64 sz] 26))
  go_enter Try.func14, Try.ntmps14
  go_wp2_with fail
  go_ret
  exact ⟨rfl, HB.out⟩
theorem level27 (op : Int) (tx : ByteArray) (fl sz : Int) (w : World) : Calls Try.prog 14 #[.agg #[.int .i64 27, .int .i64 op, .string tx, .int .i64 fl, .int .i64 sz]] w (LvPost (levelK 27 op) w) := by
  have HB := Lib.hid (belowS_alloc (Below.refl w.heap.size w) (.cells #[.int .i64 27, .int .i64 op, .string tx, .int .i64 fl, .int .i64 sz] 26))
  go_enter Try.func14, Try.ntmps14
  go_wp2_with fail
  go_ret
  exact ⟨rfl, HB.out⟩
theorem level28 (op : Int) (tx : ByteArray) (fl sz : Int) (w : World) : Calls Try.prog 14 #[.agg #[.int .i64 28, .int .i64 op, .string tx, .int .i64 fl, .int .i64 sz]] w (LvPost (levelK 28 op) w) := by
  have HB := Lib.hid (belowS_alloc (Below.refl w.heap.size w) (.cells #[.int .i64 28, .int .i64 op, .string tx, .int .i64 fl, .int .i64 sz] 26))
  go_enter Try.func14, Try.ntmps14
  go_wp2_with fail
  go_ret
  exact ⟨rfl, HB.out⟩
set_option maxRecDepth 100000 in
set_option maxHeartbeats 6400000 in
theorem level23 (op : Int) (tx : ByteArray) (fl sz : Int) (w : World) (ho : 1 ≤ op ∧ op ≤ 19) : Calls Try.prog 14 #[.agg #[.int .i64 23, .int .i64 op, .string tx, .int .i64 fl, .int .i64 sz]] w (LvPost (levelK 23 op) w) := by
  have HB := Lib.hid (belowS_alloc (belowS_alloc (Below.refl w.heap.size w) (.cells #[.int .i64 23, .int .i64 op, .string tx, .int .i64 fl, .int .i64 sz] 26)) (.cells (lvls.map (Value.int .i64)).toArray 3))
  have hc : op = 1 ∨ op = 2 ∨ op = 3 ∨ op = 4 ∨ op = 5 ∨ op = 6 ∨ op = 7 ∨ op = 8 ∨ op = 9 ∨ op = 10 ∨ op = 11 ∨ op = 12 ∨ op = 13 ∨ op = 14 ∨ op = 15 ∨ op = 16 ∨ op = 17 ∨ op = 18 ∨ op = 19 := by omega
  clear ho
  rcases hc with rfl | rfl | rfl | rfl | rfl | rfl | rfl | rfl | rfl | rfl | rfl | rfl | rfl | rfl | rfl | rfl | rfl | rfl | rfl
  all_goals
    go_enter Try.func14, Try.ntmps14
    go_wp2_with fail
    go_ret
    exact ⟨rfl, HB.out⟩
theorem levelElse (e : ND) (w : World) (h : e.kind ≠ 22 ∧ e.kind ≠ 10 ∧ e.kind ≠ 23 ∧ e.kind ≠ 20 ∧ e.kind ≠ 21 ∧ e.kind ≠ 19 ∧ e.kind ≠ 25 ∧ e.kind ≠ 24 ∧ e.kind ≠ 26 ∧ e.kind ≠ 27 ∧ e.kind ≠ 28) : Calls Try.prog 14 #[.agg #[.int .i64 e.kind, .int .i64 e.op, .string e.text, .int .i64 e.flag, .int .i64 e.size]] w (LvPost 1 w) := by
  have HB := Lib.hid (belowS_alloc (Below.refl w.heap.size w) (.cells #[.int .i64 e.kind, .int .i64 e.op, .string e.text, .int .i64 e.flag, .int .i64 e.size] 26))
  obtain ⟨n22, n10, n23, n20, n21, n19, n25, n24, n26, n27, n28⟩ := h
  have q22 : (e.kind == 22) = false := by simpa using n22
  have q10 : (e.kind == 10) = false := by simpa using n10
  have q23 : (e.kind == 23) = false := by simpa using n23
  have q20 : (e.kind == 20) = false := by simpa using n20
  have q21 : (e.kind == 21) = false := by simpa using n21
  have q19 : (e.kind == 19) = false := by simpa using n19
  have q25 : (e.kind == 25) = false := by simpa using n25
  have q24 : (e.kind == 24) = false := by simpa using n24
  have q26 : (e.kind == 26) = false := by simpa using n26
  have q27 : (e.kind == 27) = false := by simpa using n27
  have q28 : (e.kind == 28) = false := by simpa using n28
  clear n22 n10 n23 n20 n21 n19 n25 n24 n26 n27 n28
  go_enter Try.func14, Try.ntmps14
  go_wp2_with fail
  go_ret
  exact ⟨rfl, HB.out⟩
theorem level_any (e : ND) (w : World) (h1 : 1 ≤ e.kind) (h2 : e.kind ≤ 30) (ho : e.kind = 23 → 1 ≤ e.op ∧ e.op ≤ 19) : Calls Try.prog 14 #[.agg #[.int .i64 e.kind, .int .i64 e.op, .string e.text, .int .i64 e.flag, .int .i64 e.size]] w (LvPost (levelK e.kind e.op) w) := by
  obtain ⟨k, op, tx, fl, sz⟩ := e
  simp only at h1 h2 ho ⊢
  rcases kinds30 k h1 h2 with rfl | rfl | rfl | rfl | rfl | rfl | rfl | rfl | rfl | rfl | rfl | rfl | rfl | rfl | rfl | rfl | rfl | rfl | rfl | rfl | rfl | rfl | rfl | rfl | rfl | rfl | rfl | rfl | rfl | rfl
  · exact levelElse ⟨1, op, tx, fl, sz⟩ w (by simp)
  · exact levelElse ⟨2, op, tx, fl, sz⟩ w (by simp)
  · exact levelElse ⟨3, op, tx, fl, sz⟩ w (by simp)
  · exact levelElse ⟨4, op, tx, fl, sz⟩ w (by simp)
  · exact levelElse ⟨5, op, tx, fl, sz⟩ w (by simp)
  · exact levelElse ⟨6, op, tx, fl, sz⟩ w (by simp)
  · exact levelElse ⟨7, op, tx, fl, sz⟩ w (by simp)
  · exact levelElse ⟨8, op, tx, fl, sz⟩ w (by simp)
  · exact levelElse ⟨9, op, tx, fl, sz⟩ w (by simp)
  · exact level10 op tx fl sz w
  · exact levelElse ⟨11, op, tx, fl, sz⟩ w (by simp)
  · exact levelElse ⟨12, op, tx, fl, sz⟩ w (by simp)
  · exact levelElse ⟨13, op, tx, fl, sz⟩ w (by simp)
  · exact levelElse ⟨14, op, tx, fl, sz⟩ w (by simp)
  · exact levelElse ⟨15, op, tx, fl, sz⟩ w (by simp)
  · exact levelElse ⟨16, op, tx, fl, sz⟩ w (by simp)
  · exact levelElse ⟨17, op, tx, fl, sz⟩ w (by simp)
  · exact levelElse ⟨18, op, tx, fl, sz⟩ w (by simp)
  · exact level19 op tx fl sz w
  · exact level20 op tx fl sz w
  · exact level21 op tx fl sz w
  · exact level22 op tx fl sz w
  · exact level23 op tx fl sz w (ho rfl)
  · exact level24 op tx fl sz w
  · exact level25 op tx fl sz w
  · exact level26 op tx fl sz w
  · exact level27 op tx fl sz w
  · exact level28 op tx fl sz w
  · exact levelElse ⟨29, op, tx, fl, sz⟩ w (by simp)
  · exact levelElse ⟨30, op, tx, fl, sz⟩ w (by simp)
theorem rank15 (op : Int) (tx : ByteArray) (fl sz : Int) (w : World) : Calls Try.prog 8 #[.agg #[.int .i64 15, .int .i64 op, .string tx, .int .i64 fl, .int .i64 sz]] w (LvPost (rankK 15 op) w) := by
  have HB := Lib.hid (belowS_alloc (Below.refl w.heap.size w) (.cells #[.int .i64 15, .int .i64 op, .string tx, .int .i64 fl, .int .i64 sz] 26))
  go_enter Try.func8, Try.ntmps8
  go_wp2_with fail
  go_ret
  exact ⟨rfl, HB.out⟩
theorem rank16 (op : Int) (tx : ByteArray) (fl sz : Int) (w : World) : Calls Try.prog 8 #[.agg #[.int .i64 16, .int .i64 op, .string tx, .int .i64 fl, .int .i64 sz]] w (LvPost (rankK 16 op) w) := by
  have HB := Lib.hid (belowS_alloc (Below.refl w.heap.size w) (.cells #[.int .i64 16, .int .i64 op, .string tx, .int .i64 fl, .int .i64 sz] 26))
  go_enter Try.func8, Try.ntmps8
  go_wp2_with fail
  go_ret
  exact ⟨rfl, HB.out⟩
theorem rank17 (op : Int) (tx : ByteArray) (fl sz : Int) (w : World) : Calls Try.prog 8 #[.agg #[.int .i64 17, .int .i64 op, .string tx, .int .i64 fl, .int .i64 sz]] w (LvPost (rankK 17 op) w) := by
  have HB := Lib.hid (belowS_alloc (Below.refl w.heap.size w) (.cells #[.int .i64 17, .int .i64 op, .string tx, .int .i64 fl, .int .i64 sz] 26))
  go_enter Try.func8, Try.ntmps8
  go_wp2_with fail
  go_ret
  exact ⟨rfl, HB.out⟩
theorem rank18 (op : Int) (tx : ByteArray) (fl sz : Int) (w : World) : Calls Try.prog 8 #[.agg #[.int .i64 18, .int .i64 op, .string tx, .int .i64 fl, .int .i64 sz]] w (LvPost (rankK 18 op) w) := by
  have HB := Lib.hid (belowS_alloc (Below.refl w.heap.size w) (.cells #[.int .i64 18, .int .i64 op, .string tx, .int .i64 fl, .int .i64 sz] 26))
  go_enter Try.func8, Try.ntmps8
  go_wp2_with fail
  go_ret
  exact ⟨rfl, HB.out⟩
theorem rank9 (op : Int) (tx : ByteArray) (fl sz : Int) (w : World) : Calls Try.prog 8 #[.agg #[.int .i64 9, .int .i64 op, .string tx, .int .i64 fl, .int .i64 sz]] w (LvPost (rankK 9 op) w) := by
  have HB := Lib.hid (belowS_alloc (Below.refl w.heap.size w) (.cells #[.int .i64 9, .int .i64 op, .string tx, .int .i64 fl, .int .i64 sz] 26))
  go_enter Try.func8, Try.ntmps8
  go_wp2_with fail
  go_ret
  exact ⟨rfl, HB.out⟩
theorem rankElse (e : ND) (w : World) (h1 : 1 ≤ e.kind) (h2 : e.kind ≤ 30) (ho : e.kind = 23 → 1 ≤ e.op ∧ e.op ≤ 19) (h : e.kind ≠ 15 ∧ e.kind ≠ 16 ∧ e.kind ≠ 17 ∧ e.kind ≠ 18 ∧ e.kind ≠ 9) : Calls Try.prog 8 #[.agg #[.int .i64 e.kind, .int .i64 e.op, .string e.text, .int .i64 e.flag, .int .i64 e.size]] w (LvPost (rankK e.kind e.op) w) := by
  have HR := Lib.hid (show rankK e.kind e.op = if 1 < levelK e.kind e.op then levelK e.kind e.op else 0 from by
    unfold rankK
    rw [if_neg (by simp; omega)])
  have HB := Lib.hid (belowS_alloc (Below.refl w.heap.size w) (.cells #[.int .i64 e.kind, .int .i64 e.op, .string e.text, .int .i64 e.flag, .int .i64 e.size] 26))
  have KL := Lib.hid (fun (w' : World) => level_any e w' h1 h2 ho)
  obtain ⟨n15, n16, n17, n18, n9⟩ := h
  have q15 : (e.kind == 15) = false := by simpa using n15
  have q16 : (e.kind == 16) = false := by simpa using n16
  have q17 : (e.kind == 17) = false := by simpa using n17
  have q18 : (e.kind == 18) = false := by simpa using n18
  have q9 : (e.kind == 9) = false := by simpa using n9
  clear n15 n16 n17 n18 n9 h1 h2 ho
  generalize levelK e.kind e.op = l at *
  go_enter Try.func8, Try.ntmps8
  go_wp2_with fail
  refine (KL.out _).mono ?_
  rintro e1 w1 ⟨rfl, hw1⟩
  have HB1 := Lib.hid (HB.out.trans (hw1.mono HB.out.size))
  clear hw1
  by_cases hl : 1 < l
  · have HV := Lib.hid (show rankK e.kind e.op = l by rw [HR.out, if_pos hl])
    go_wp2_with fail
    go_ret
    exact ⟨by rw [HV.out]; rfl, HB1.out⟩
  · have HV := Lib.hid (show rankK e.kind e.op = 0 by rw [HR.out, if_neg hl])
    go_wp2_with fail
    go_ret
    exact ⟨by rw [HV.out]; rfl, HB1.out⟩
theorem rank_any (e : ND) (w : World) (h1 : 1 ≤ e.kind) (h2 : e.kind ≤ 30) (ho : e.kind = 23 → 1 ≤ e.op ∧ e.op ≤ 19) : Calls Try.prog 8 #[.agg #[.int .i64 e.kind, .int .i64 e.op, .string e.text, .int .i64 e.flag, .int .i64 e.size]] w (LvPost (rankK e.kind e.op) w) := by
  by_cases h : e.kind ≠ 15 ∧ e.kind ≠ 16 ∧ e.kind ≠ 17 ∧ e.kind ≠ 18 ∧ e.kind ≠ 9
  · exact rankElse e w h1 h2 ho h
  · obtain ⟨k, op, tx, fl, sz⟩ := e
    simp only at h1 h2 ho h ⊢
    have hc : k = 15 ∨ k = 16 ∨ k = 17 ∨ k = 18 ∨ k = 9 := by omega
    rcases hc with rfl | rfl | rfl | rfl | rfl
    · exact rank15 op tx fl sz w
    · exact rank16 op tx fl sz w
    · exact rank17 op tx fl sz w
    · exact rank18 op tx fl sz w
    · exact rank9 op tx fl sz w
theorem odd_any (k : Int) (w : World) : Calls Try.prog 6 #[.int .i64 k] w (fun e w' => e = .returned (.bool (oddK k)) ∧ w = w') := by
  by_cases h1 : k = 29
  · subst h1
    go_enter Try.func6, Try.ntmps6
    go_wp2_with fail
    go_ret
    exact ⟨rfl, rfl⟩
  by_cases h2 : k = 10
  · subst h2
    go_enter Try.func6, Try.ntmps6
    go_wp2_with fail
    go_ret
    exact ⟨rfl, rfl⟩
  by_cases h3 : k = 25
  · subst h3
    go_enter Try.func6, Try.ntmps6
    go_wp2_with fail
    go_ret
    exact ⟨rfl, rfl⟩
  by_cases h4 : k = 19
  · subst h4
    go_enter Try.func6, Try.ntmps6
    go_wp2_with fail
    go_ret
    exact ⟨rfl, rfl⟩
  have q1 : (k == 29) = false := by simpa using h1
  have q2 : (k == 10) = false := by simpa using h2
  have q3 : (k == 25) = false := by simpa using h3
  have q4 : (k == 19) = false := by simpa using h4
  have HO := Lib.hid (show oddK k = false by unfold oddK; simp [q1, q2, q3, q4])
  clear h1 h2 h3 h4
  go_enter Try.func6, Try.ntmps6
  go_wp2_with fail
  go_ret
  exact ⟨by rw [HO.out]; rfl, rfl⟩
/-- The law: the precedence rises just as the rank does. -/
theorem prec_rank (k op : Int) (h1 : 1 ≤ k) (h2 : k ≤ 30) (ho : k = 23 → 1 ≤ op ∧ op ≤ 19) (hd : oddK k = false) :
    0 ≤ rankK k op ∧ rankK k op ≤ 13 ∧ precK k op = if rankK k op ≤ 1 then rankK k op + 1 else if rankK k op ≤ 12 then rankK k op + 2 else 16 := by
  by_cases h23 : k = 23
  · subst h23
    have h := ho rfl
    have hc : op = 1 ∨ op = 2 ∨ op = 3 ∨ op = 4 ∨ op = 5 ∨ op = 6 ∨ op = 7 ∨ op = 8 ∨ op = 9 ∨ op = 10 ∨ op = 11 ∨ op = 12 ∨ op = 13 ∨ op = 14 ∨ op = 15 ∨ op = 16 ∨ op = 17 ∨ op = 18 ∨ op = 19 := by omega
    clear h ho
    rcases hc with rfl | rfl | rfl | rfl | rfl | rfl | rfl | rfl | rfl | rfl | rfl | rfl | rfl | rfl | rfl | rfl | rfl | rfl | rfl <;> decide
  · clear ho
    have hr : rankK k op = rankK k 0 := by unfold rankK levelK; simp [h23]
    have hp : precK k op = precK k 0 := by unfold precK; simp [h23]
    rw [hr, hp]
    rcases kinds30 k h1 h2 with rfl | rfl | rfl | rfl | rfl | rfl | rfl | rfl | rfl | rfl | rfl | rfl | rfl | rfl | rfl | rfl | rfl | rfl | rfl | rfl | rfl | rfl | rfl | rfl | rfl | rfl | rfl | rfl | rfl | rfl <;> first | decide | (exact absurd rfl h23) | (exact absurd hd (by decide))
theorem law_of {a b x y : Int} (hx0 : 0 ≤ x) (hx : x ≤ 13) (hy0 : 0 ≤ y) (hy : y ≤ 13) (ha : a = if x ≤ 1 then x + 1 else if x ≤ 12 then x + 2 else 16) (hb : b = if y ≤ 1 then y + 1 else if y ≤ 12 then y + 2 else 16) :
    0 < a ∧ 0 < b ∧ (a < b ↔ x < y) ∧ (a = b ↔ x = y) := by
  split at ha <;> split at hb <;> (try split at ha) <;> (try split at hb) <;> omega
end Go.Proofs.Ytdhhdnopilfifaa
