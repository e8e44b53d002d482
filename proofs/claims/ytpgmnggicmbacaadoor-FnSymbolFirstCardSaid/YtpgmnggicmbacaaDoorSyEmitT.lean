/-
  emitToken: what has been read since the token's start is emitted. (Printed by wip/gen_emittok.py.)
-/
import Derived.Test.YtpgmnggicmbacaaDoorSySym
namespace Go.Proofs.YtpgmnggicmbacaaDoor
open Go.Shelf Go.RowKit
set_option linter.unusedVariables false
set_option linter.unusedSimpArgs false

theorem LexW.cells3 {w : World} {b : Nat} {s : ByteArray} {K : LK} {pos : Nat} {ls : Int} (h : LexW w b s K pos ls) : w.cell? ⟨b, 2, none⟩ = some (.string s) ∧ w.cell? ⟨b, 6, none⟩ = some (.int .i64 K.ts) ∧ w.cell? ⟨b, 10, none⟩ = some (.int .i64 pos) := by
  obtain ⟨fr, ln, hB, -⟩ := h
  exact ⟨hB.cell 2, hB.cell 6, hB.cell 10⟩
set_option maxRecDepth 100000 in
set_option maxHeartbeats 3200000 in
set_option linter.unusedSimpArgs false in
theorem emitTok_any (b : Nat) (s f g : ByteArray) (src : Option Addr) (j : Nat) (k : Int) (hs : s.size ≤ 1000000) (hj : j ≤ s.size) (w : World) (h : LexW w b s (K0 f g src) j 0) :
    Calls Tryd.prog 81 #[.pointer (some ⟨b, 0, none⟩), .int .i64 k] w (TokPost b k (s.extract 0 j) w) := by
  have HL := Lib.hid h
  have hS : w.drew.cell? ⟨b, 2, none⟩ = some (.string s) ∧ w.drew.cell? ⟨b, 6, none⟩ = some (.int .i64 0) ∧ w.drew.cell? ⟨b, 10, none⟩ = some (.int .i64 j) := h.cells3
  have z0 : (0 : Int) ≤ (j : Int) := by omega
  have z1 : (j : Int) ≤ (s.size : Int) := by omega
  clear h
  go_enter Tryd.func81, Tryd.ntmps81
  go_upto_region 0 with fail
  refine but_start (n := 16) (S := fun w' => w'.cell? ⟨b, 2, none⟩ = some (.string s) ∧ w'.cell? ⟨b, 6, none⟩ = some (.int .i64 0) ∧ w'.cell? ⟨b, 10, none⟩ = some (.int .i64 j)) (by kernel_rfl) (by kernel_rfl) ?_
  refine' but_take (i := 0) (v := _) rfl (by kernel_rfl) (by kernel_rfl) (by kernel_rfl) (by kernel_rfl) (by kernel_rfl) (by kernel_rfl) (fun _ _ _ h => h) (Or.inl ⟨by rfl, ?hy0⟩) hS ?rest0
  case hy0 =>
    intro x hx
    obtain ⟨x2, x6, x10⟩ := hx
    go_simp
    try with_reducible rfl
  try simp only [Act.put, List.setIfInBounds_toArray, List.set_cons_zero, List.set_cons_succ]
  refine' but_take (i := 1) (v := _) rfl (by kernel_rfl) (by kernel_rfl) (by kernel_rfl) (by kernel_rfl) (by kernel_rfl) (by kernel_rfl) (fun _ _ _ h => h) (Or.inl ⟨by rfl, ?hy1⟩) hS ?rest1
  case hy1 =>
    intro x hx
    obtain ⟨x2, x6, x10⟩ := hx
    go_simp
    try with_reducible rfl
  try simp only [Act.put, List.setIfInBounds_toArray, List.set_cons_zero, List.set_cons_succ]
  refine' but_take (i := 2) (v := _) rfl (by kernel_rfl) (by kernel_rfl) (by kernel_rfl) (by kernel_rfl) (by kernel_rfl) (by kernel_rfl) (fun _ _ _ h => h) (Or.inl ⟨by rfl, ?hy2⟩) hS ?rest2
  case hy2 =>
    intro x hx
    obtain ⟨x2, x6, x10⟩ := hx
    go_simp
    try with_reducible rfl
  try simp only [Act.put, List.setIfInBounds_toArray, List.set_cons_zero, List.set_cons_succ]
  refine' but_take (i := 3) (v := _) rfl (by kernel_rfl) (by kernel_rfl) (by kernel_rfl) (by kernel_rfl) (by kernel_rfl) (by kernel_rfl) (fun _ _ _ h => h) (Or.inl ⟨by rfl, ?hy3⟩) hS ?rest3
  case hy3 =>
    intro x hx
    obtain ⟨x2, x6, x10⟩ := hx
    go_simp
    try with_reducible rfl
  try simp only [Act.put, List.setIfInBounds_toArray, List.set_cons_zero, List.set_cons_succ]
  refine' but_take (i := 4) (v := _) rfl (by kernel_rfl) (by kernel_rfl) (by kernel_rfl) (by kernel_rfl) (by kernel_rfl) (by kernel_rfl) (fun _ _ _ h => h) (Or.inl ⟨by rfl, ?hy4⟩) hS ?rest4
  case hy4 =>
    intro x hx
    obtain ⟨x2, x6, x10⟩ := hx
    go_simp
    try with_reducible rfl
  try simp only [Act.put, List.setIfInBounds_toArray, List.set_cons_zero, List.set_cons_succ]
  refine' but_take (i := 5) (v := _) rfl (by kernel_rfl) (by kernel_rfl) (by kernel_rfl) (by kernel_rfl) (by kernel_rfl) (by kernel_rfl) (fun _ _ _ h => h) (Or.inl ⟨by rfl, ?hy5⟩) hS ?rest5
  case hy5 =>
    intro x hx
    obtain ⟨x2, x6, x10⟩ := hx
    go_simp
    try with_reducible rfl
  try simp only [Act.put, List.setIfInBounds_toArray, List.set_cons_zero, List.set_cons_succ]
  refine' but_take (i := 6) (v := _) rfl (by kernel_rfl) (by kernel_rfl) (by kernel_rfl) (by kernel_rfl) (by kernel_rfl) (by kernel_rfl) (fun _ _ _ h => h) (Or.inl ⟨by rfl, ?hy6⟩) hS ?rest6
  case hy6 =>
    intro x hx
    obtain ⟨x2, x6, x10⟩ := hx
    go_simp
    try with_reducible rfl
  try simp only [Act.put, List.setIfInBounds_toArray, List.set_cons_zero, List.set_cons_succ]
  refine' but_take (i := 7) (v := _) rfl (by kernel_rfl) (by kernel_rfl) (by kernel_rfl) (by kernel_rfl) (by kernel_rfl) (by kernel_rfl) (fun _ _ _ h => h) (Or.inl ⟨by rfl, ?hy7⟩) hS ?rest7
  case hy7 =>
    intro x hx
    obtain ⟨x2, x6, x10⟩ := hx
    go_simp
    try with_reducible rfl
  try simp only [Act.put, List.setIfInBounds_toArray, List.set_cons_zero, List.set_cons_succ]
  refine' but_take (i := 8) (v := _) rfl (by kernel_rfl) (by kernel_rfl) (by kernel_rfl) (by kernel_rfl) (by kernel_rfl) (by kernel_rfl) (fun _ _ _ h => h) (Or.inl ⟨by rfl, ?hy8⟩) hS ?rest8
  case hy8 =>
    intro x hx
    obtain ⟨x2, x6, x10⟩ := hx
    go_simp
    try with_reducible rfl
  try simp only [Act.put, List.setIfInBounds_toArray, List.set_cons_zero, List.set_cons_succ]
  refine' but_take (i := 9) (v := _) rfl (by kernel_rfl) (by kernel_rfl) (by kernel_rfl) (by kernel_rfl) (by kernel_rfl) (by kernel_rfl) (fun _ _ _ h => h) (Or.inl ⟨by rfl, ?hy9⟩) hS ?rest9
  case hy9 =>
    intro x hx
    obtain ⟨x2, x6, x10⟩ := hx
    go_simp
    try with_reducible rfl
  try simp only [Act.put, List.setIfInBounds_toArray, List.set_cons_zero, List.set_cons_succ]
  refine' but_take (i := 10) (v := _) rfl (by kernel_rfl) (by kernel_rfl) (by kernel_rfl) (by kernel_rfl) (by kernel_rfl) (by kernel_rfl) (fun _ _ _ h => h) (Or.inl ⟨by rfl, ?hy10⟩) hS ?rest10
  case hy10 =>
    intro x hx
    obtain ⟨x2, x6, x10⟩ := hx
    go_simp
    try with_reducible rfl
  try simp only [Act.put, List.setIfInBounds_toArray, List.set_cons_zero, List.set_cons_succ]
  refine' but_take (i := 11) (v := _) rfl (by kernel_rfl) (by kernel_rfl) (by kernel_rfl) (by kernel_rfl) (by kernel_rfl) (by kernel_rfl) (fun _ _ _ h => h) (Or.inl ⟨by rfl, ?hy11⟩) hS ?rest11
  case hy11 =>
    intro x hx
    obtain ⟨x2, x6, x10⟩ := hx
    go_simp
    try with_reducible rfl
  try simp only [Act.put, List.setIfInBounds_toArray, List.set_cons_zero, List.set_cons_succ]
  refine' but_take (i := 12) (v := _) rfl (by kernel_rfl) (by kernel_rfl) (by kernel_rfl) (by kernel_rfl) (by kernel_rfl) (by kernel_rfl) (fun _ _ _ h => h) (Or.inl ⟨by rfl, ?hy12⟩) hS ?rest12
  case hy12 =>
    intro x hx
    obtain ⟨x2, x6, x10⟩ := hx
    go_simp
    try with_reducible rfl
  try simp only [Act.put, List.setIfInBounds_toArray, List.set_cons_zero, List.set_cons_succ]
  refine' but_take (i := 13) (v := _) rfl (by kernel_rfl) (by kernel_rfl) (by kernel_rfl) (by kernel_rfl) (by kernel_rfl) (by kernel_rfl) (fun _ _ _ h => h) (Or.inl ⟨by rfl, ?hy13⟩) hS ?rest13
  case hy13 =>
    intro x hx
    obtain ⟨x2, x6, x10⟩ := hx
    go_simp
    try with_reducible rfl
  try simp only [Act.put, List.setIfInBounds_toArray, List.set_cons_zero, List.set_cons_succ]
  refine' but_take (i := 14) (v := _) rfl (by kernel_rfl) (by kernel_rfl) (by kernel_rfl) (by kernel_rfl) (by kernel_rfl) (by kernel_rfl) (fun _ _ _ h => h) (Or.inl ⟨by rfl, ?hy14⟩) hS ?rest14
  case hy14 =>
    intro x hx
    obtain ⟨x2, x6, x10⟩ := hx
    go_simp
    try with_reducible rfl
  try simp only [Act.put, List.setIfInBounds_toArray, List.set_cons_zero, List.set_cons_succ]
  refine' but_take (i := 15) (v := _) rfl (by kernel_rfl) (by kernel_rfl) (by kernel_rfl) (by kernel_rfl) (by kernel_rfl) (by kernel_rfl) (fun _ _ _ h => h) (Or.inl ⟨by rfl, ?hy15⟩) hS ?rest15
  case hy15 =>
    intro x hx
    obtain ⟨x2, x6, x10⟩ := hx
    go_simp
    try with_reducible rfl
  try simp only [Act.put, List.setIfInBounds_toArray, List.set_cons_zero, List.set_cons_succ]
  refine but_last rfl (by kernel_rfl) (by kernel_rfl) ?_
  intro K16 hK16
  go_simp
  go_at_call 78
  refine (emitFull_any b s (s.extract 0 j) ⟨#[]⟩ ⟨#[]⟩ f g src none 0 0 0 1 1 j 0 k (by omega) _ (show LexW w.drew b s _ j 0 from HL.out)).mono ?_
  rintro e1 w1 ⟨rfl, g1, cap1, F1, h1, n1, n10, hg1, hgr1⟩
  have H1 := Lib.hid h1
  have HN := Lib.hid (And.intro n1 (And.intro n10 hgr1))
  clear h1 n1 n10 hgr1
  refine hK16.out _ _ ?_
  clear hK16 K16 hS
  try simp only [Act.put, List.setIfInBounds_toArray, List.set_cons_zero, List.set_cons_succ]
  go_wp2_with fail
  refine (resetTok_any b s _ j 0 (by omega) g1 cap1 k (s.extract 0 j) rfl hg1 _ H1.out HN.out.1 HN.out.2.1).mono ?_
  rintro e2 w2 ⟨rfl, h2, hg2⟩
  have H2 := Lib.hid (And.intro h2 hg2)
  clear h2 hg2
  go_wp2_with fail
  go_end0
  exact ⟨rfl, H2.out.1, grown_trans (grown_below (Below.refl _ _).drew _) (grown_trans HN.out.2.2 H2.out.2)⟩
end Go.Proofs.YtpgmnggicmbacaaDoor
