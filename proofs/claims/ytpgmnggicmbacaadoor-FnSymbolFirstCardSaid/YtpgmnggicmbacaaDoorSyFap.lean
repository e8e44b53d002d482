/-
  FodderAppend of a paragraph to the lexer's fodder that is none yet; addFodderSafe. (Printed by wip/gen_fap.py.)
-/
import Derived.Test.YtpgmnggicmbacaaDoorSyFod
namespace Go.Proofs.YtpgmnggicmbacaaDoor
open Go.Shelf Go.RowKit
set_option linter.unusedVariables false
set_option linter.unusedSimpArgs false

theorem hce_nil (w : World) : Calls Tryd.prog 108 #[.slice none 0 0] w fun e w' => e = .returned (.bool false) ∧ w = w' := by
  go_enter Tryd.func108, Tryd.ntmps108
  go_wp2_with fail
  go_ret
  exact ⟨rfl, rfl⟩
theorem new_at1 {w : World} {n : Nat} {o : Obj} (h : w.heap.size = n) : (w.alloc o).heap[n]? = some o := by
  subst h
  exact heap_alloc_new w o
theorem new_box (w : World) (A : Option Addr) (m c : Nat) (k bl i : Int) : ElAt (w.alloc (.cells #[.slice A m c, .int .i64 k, .int .i64 bl, .int .i64 i] 151)) w.heap.size (.slice A m c) (.int .i64 k) (.int .i64 bl) (.int .i64 i) := by
  have hB : Blk (w.alloc (.cells #[.slice A m c, .int .i64 k, .int .i64 bl, .int .i64 i] 151)) w.heap.size 151 #[.slice A m c, .int .i64 k, .int .i64 bl, .int .i64 i] := heap_alloc_new w _
  exact ⟨hB.cell 0, hB.cell 1, hB.cell 2, hB.cell 3⟩
theorem ElAt.set {w : World} {g b j : Nat} {v0 v1 v2 v3 v : Value} (h : ElAt w g v0 v1 v2 v3) (hb : b ≠ g) : ElAt (w.setCell ⟨b, j, none⟩ v) g v0 v1 v2 v3 := by
  obtain ⟨h0, h1, h2, h3⟩ := h
  exact ⟨(World.cell?_setCell_far _ _ _ _ hb).trans h0, (World.cell?_setCell_far _ _ _ _ hb).trans h1, (World.cell?_setCell_far _ _ _ _ hb).trans h2, (World.cell?_setCell_far _ _ _ _ hb).trans h3⟩
set_option maxRecDepth 100000 in
set_option maxHeartbeats 3200000 in
theorem fapC {b : Nat} {s f g : ByteArray} {src : Option Addr} {w0 wr : World} {pos : Nat} {ls : Int} (h1 : LexW wr b s (K0 f g src) pos ls) (h2 : w0.grownBy wr (some b)) (hl : b < w0.heap.size) (bl i : Int) (A : Option Addr) (m c : Nat) (hm : 0 < m) (hm2 : m ≤ 2000000) :
    Calls Tryd.prog 99 #[.pointer (some ⟨b, 5, none⟩), .agg #[.slice A m c, .int .i64 2, .int .i64 bl, .int .i64 i]] wr (fun e w' => NoRes e ∧ FdI b s f g src w0 w' pos 2) := by
  have HL := Lib.hid h1
  have HG := Lib.hid h2
  obtain ⟨i0, hi, hz, hsz, hbb⟩ := info_parts2 info_fe
  have c5 : (wr.alloc (.cells #[.slice A m c, .int .i64 2, .int .i64 bl, .int .i64 i] 151)).cell? ⟨b, 5, none⟩ = some (.slice none 0 0) := (lexCells (show LexW (wr.alloc (.cells #[.slice A m c, .int .i64 2, .int .i64 bl, .int .i64 i] 151)) b s (K0 f g src) pos ls from h1.below (below_alloc1 _ _))).2.2.2.1
  have hbox := new_box wr A m c 2 bl i
  have HLW := Lib.hid (h1.below (below_alloc1 wr (.cells #[.slice A m c, .int .i64 2, .int .i64 bl, .int .i64 i] 151)))
  have HGW := Lib.hid (grown_trans h2 (grown_below (below_alloc1 wr (.cells #[.slice A m c, .int .i64 2, .int .i64 bl, .int .i64 i] 151)) _))
  have HR := Lib.hid hbox
  have hwr : w0.heap.size ≤ wr.heap.size := h2.size
  have hsz0 : (wr.alloc (.cells #[.slice A m c, .int .i64 2, .int .i64 bl, .int .i64 i] 151)).heap.size = wr.heap.size + 1 := by simp
  obtain ⟨b0, b1, b2, b3⟩ := hbox
  obtain ⟨W, hW⟩ : ∃ W, wr.alloc (.cells #[.slice A m c, .int .i64 2, .int .i64 bl, .int .i64 i] 151) = W := ⟨_, rfl⟩
  rw [hW] at c5 b0 b1 b2 b3 HLW HGW HR hsz0
  have hzw : w0.heap.size ≤ W.heap.size := HGW.out.size
  clear h1 h2 HL HG
  go_enter Tryd.func99, Tryd.ntmps99
  go_wp2_with (rw [hW])
  refine (hce_nil W).mono ?_
  rintro e1 w1 ⟨rfl, rfl⟩
  go_wp2_with fail
  refine (hce_nil W).mono ?_
  rintro e1 w1 ⟨rfl, rfl⟩
  go_upto_region 8 with fail
  have HS := Lib.hid (fd_keep (w := W) (B := w0.heap.size) HLW.out HR.out hl)
  have hS := HS.out (W.drew) none (grown_below ((Below.refl _ _).drew) none) (by simp) (by simp)
  refine but_start (n := 11) (S := fun w' => w'.cell? ⟨b, 5, none⟩ = some (.slice none 0 0) ∧ w'.cell? ⟨wr.heap.size, 0, none⟩ = some (.slice A m c) ∧ w'.cell? ⟨wr.heap.size, 1, none⟩ = some (.int .i64 2) ∧ w'.cell? ⟨wr.heap.size, 2, none⟩ = some (.int .i64 bl) ∧ w'.cell? ⟨wr.heap.size, 3, none⟩ = some (.int .i64 i)) (by kernel_rfl) (by kernel_rfl) ?_
  refine' but_take (i := 0) (v := _) rfl (by kernel_rfl) (by kernel_rfl) (by kernel_rfl) (by kernel_rfl) (by kernel_rfl) (by kernel_rfl) (fun _ _ _ h => h) (Or.inl ⟨by rfl, ?hy0⟩) hS ?ry0
  case hy0 =>
    intro x hx
    obtain ⟨x5, y0, y1, y2, y3⟩ := hx
    go_simp
    try with_reducible rfl
  try simp only [Act.put, List.setIfInBounds_toArray, List.set_cons_zero, List.set_cons_succ]
  refine' but_take (i := 1) (v := _) rfl (by kernel_rfl) (by kernel_rfl) (by kernel_rfl) (by kernel_rfl) (by kernel_rfl) (by kernel_rfl) (fun _ _ _ h => h) (Or.inl ⟨by rfl, ?hy1⟩) hS ?ry1
  case hy1 =>
    intro x hx
    obtain ⟨x5, y0, y1, y2, y3⟩ := hx
    go_simp
    try with_reducible rfl
  try simp only [Act.put, List.setIfInBounds_toArray, List.set_cons_zero, List.set_cons_succ]
  refine' but_take (i := 2) (v := _) rfl (by kernel_rfl) (by kernel_rfl) (by kernel_rfl) (by kernel_rfl) (by kernel_rfl) (by kernel_rfl) (fun _ _ _ h => h) (Or.inl ⟨by rfl, ?hy2⟩) hS ?ry2
  case hy2 =>
    intro x hx
    obtain ⟨x5, y0, y1, y2, y3⟩ := hx
    go_simp
    try with_reducible rfl
  try simp only [Act.put, List.setIfInBounds_toArray, List.set_cons_zero, List.set_cons_succ]
  refine' but_take (i := 3) (v := _) rfl (by kernel_rfl) (by kernel_rfl) (by kernel_rfl) (by kernel_rfl) (by kernel_rfl) (by kernel_rfl) (fun _ _ _ h => h) (Or.inl ⟨by rfl, ?hy3⟩) hS ?ry3
  case hy3 =>
    intro x hx
    obtain ⟨x5, y0, y1, y2, y3⟩ := hx
    go_simp
    try with_reducible rfl
  try simp only [Act.put, List.setIfInBounds_toArray, List.set_cons_zero, List.set_cons_succ]
  refine' but_take (i := 4) (v := _) rfl (by kernel_rfl) (by kernel_rfl) (by kernel_rfl) (by kernel_rfl) (by kernel_rfl) (by kernel_rfl) (fun _ _ _ h => h) (Or.inl ⟨by rfl, ?hy4⟩) hS ?ry4
  case hy4 =>
    intro x hx
    obtain ⟨x5, y0, y1, y2, y3⟩ := hx
    go_simp
    try with_reducible rfl
  try simp only [Act.put, List.setIfInBounds_toArray, List.set_cons_zero, List.set_cons_succ]
  refine' but_take (i := 5) (v := _) rfl (by kernel_rfl) (by kernel_rfl) (by kernel_rfl) (by kernel_rfl) (by kernel_rfl) (by kernel_rfl) (fun _ _ _ h => h) (Or.inl ⟨by rfl, ?hy5⟩) hS ?ry5
  case hy5 =>
    intro x hx
    obtain ⟨x5, y0, y1, y2, y3⟩ := hx
    go_simp
    try with_reducible rfl
  try simp only [Act.put, List.setIfInBounds_toArray, List.set_cons_zero, List.set_cons_succ]
  refine but_one (i := 6) rfl (by kernel_rfl) (by kernel_rfl) ?_
  intro K6 hK6
  go_simp
  refine hK6.out _ _ (HS.out (W.drew.alloc (.cells #[] 9)) none (grown_below (below_allocS ((Below.refl _ _).drew) _) none) (by simp) (by simp)) ?_
  clear hK6 K6
  try simp only [Act.put, List.setIfInBounds_toArray, List.set_cons_zero, List.set_cons_succ]
  refine but_one (i := 7) rfl (by kernel_rfl) (by kernel_rfl) ?_
  intro K7 hK7
  go_simp
  go_at_call 95
  refine (mk_any 0 0 i (some ⟨wr.heap.size + 1, 0, none⟩) 0 0 _ (.inl ⟨rfl, by omega⟩) (by omega)).mono ?_
  rintro e3 w3 ⟨rfl, rfl⟩
  refine hK7.out _ _ (HS.out ((W.drew.alloc (.cells #[] 9)).alloc (.cells #[.slice (some ⟨wr.heap.size + 1, 0, none⟩) 0 0, .int .i64 0, .int .i64 0, .int .i64 i] 151)) none (grown_below (below_allocS (below_allocS ((Below.refl _ _).drew) _) _) none) (by simp) (by simp)) ?_
  clear hK7 K7
  try simp only [Act.put, List.setIfInBounds_toArray, List.set_cons_zero, List.set_cons_succ]
  refine but_one (i := 8) rfl (by kernel_rfl) (by kernel_rfl) ?_
  intro K8 hK8
  go_simp
  refine hK8.out _ _ (HS.out (((W.drew.alloc (.cells #[] 9)).alloc (.cells #[.slice (some ⟨wr.heap.size + 1, 0, none⟩) 0 0, .int .i64 0, .int .i64 0, .int .i64 i] 151)).alloc (.cells #[.slice (some ⟨wr.heap.size + 1, 0, none⟩) 0 0, .int .i64 0, .int .i64 0, .int .i64 i] 151)) none (grown_below (below_allocS (below_allocS (below_allocS ((Below.refl _ _).drew) _) _) _) none) (by simp) (by simp)) ?_
  clear hK8 K8
  try simp only [Act.put, List.setIfInBounds_toArray, List.set_cons_zero, List.set_cons_succ]
  refine but_one (i := 9) rfl (by kernel_rfl) (by kernel_rfl) ?_
  intro K9 hK9
  refine step_append_x _ (by rfl) _ _ 79 (by rfl) w0.heap.size 151 i0 _ 4 48 Tryd.underlying79 hi hz hsz hbb rfl (by omega) (.slice none 0 0) 0 [] (by rfl) (World.ownsRow_nil _ _ _ _) (wr.heap.size + 4) (some ⟨wr.heap.size + 3, 0, none⟩) 1 1 [.slice (some ⟨wr.heap.size + 1, 0, none⟩) 0 0, .int .i64 0, .int .i64 0, .int .i64 i] (by rfl) (Reads.ofBlock (cs := #[.slice (some ⟨wr.heap.size + 1, 0, none⟩) 0 0, .int .i64 0, .int .i64 0, .int .i64 i]) (new_at1 (by simp; omega)) rfl (by omega)) (by simp [Value.oneCell']) (.inr (by omega)) (by unfold maxLen; omega) (by omega) (by simp; omega) (wr.heap.size + 4) (by simp; omega) ?_
  intro g2 cap2 w3 hown2 hgrow2 hat2 hlt2
  have hg3 : W.grownBy w3 none := grown_trans (grown_below (below_allocS (below_allocS (below_allocS ((Below.refl _ _).drew) _) _) _) _) hgrow2
  have hS3 := HS.out w3 none hg3 (by simp) (by simp)
  have HL3 := Lib.hid (HLW.out.grown hg3 (by simp))
  have HG3 := Lib.hid (grown_own HGW.out hg3 (by simp))
  have HO3 := Lib.hid hown2
  have hgne : g2 ≠ wr.heap.size := by
    rcases hat2 with h | h
    · cases h
    · omega
  have HR3 := Lib.hid (show ElAt w3 wr.heap.size (.slice A m c) (.int .i64 2) (.int .i64 bl) (.int .i64 i) from hS3.2)
  refine hK9.out _ _ hS3 ?_
  clear hK9 K9 hS hown2 hgrow2 hat2 hlt2 hg3
  try simp only [Act.put, List.setIfInBounds_toArray, List.set_cons_zero, List.set_cons_succ]
  refine' but_take (i := 10) (v := _) rfl (by kernel_rfl) (by kernel_rfl) (by kernel_rfl) (by kernel_rfl) (by kernel_rfl) (by kernel_rfl) (fun _ _ _ h => h) (Or.inl ⟨by rfl, ?hy10⟩) hS3 ?ry10
  case hy10 =>
    intro x hx
    obtain ⟨x5, y0, y1, y2, y3⟩ := hx
    go_simp
    try with_reducible rfl
  try simp only [Act.put, List.setIfInBounds_toArray, List.set_cons_zero, List.set_cons_succ]
  refine but_last rfl (by kernel_rfl) (by kernel_rfl) ?_
  intro K11 hK11
  have f5 := (lexCells (show LexW w3 b s _ pos ls from HL3.out)).2.2.2.2.2.2.2
  go_simp
  refine hK11.out _ _ ?_
  clear hK11 K11 hS3 f5
  have HL4 := Lib.hid (HL3.out.setTok (.slice (some ⟨g2, 0, none⟩) 1 cap2))
  have HG4 := Lib.hid (grown_set HG3.out 5 (.slice (some ⟨g2, 0, none⟩) 1 cap2))
  have HO4 := Lib.hid (ownsRow_setCell_below HO3.out (a := ⟨b, 5, none⟩) hl (.slice (some ⟨g2, 0, none⟩) 1 cap2))
  have HR4 := Lib.hid (HR3.out.set (j := 5) (v := .slice (some ⟨g2, 0, none⟩) 1 cap2) (show b ≠ wr.heap.size by omega))
  have hown4 := HO4.out.lt
  clear HL3 HG3 HO3 HR3 HLW HGW HR HS
  generalize w3.setCell ⟨b, 5, none⟩ (.slice (some ⟨g2, 0, none⟩) 1 cap2) = W4 at HL4 HG4 HO4 HR4 hown4 ⊢
  have hz4 : w0.heap.size ≤ W4.heap.size := HG4.out.size
  have HS := Lib.hid (fd_keep (w := W4) (B := w0.heap.size) HL4.out HR4.out hl)
  have hS := HS.out (W4.drew) none (grown_below ((Below.refl _ _).drew) none) (by simp) (by simp)
  go_upto_region 9 with fail
  refine but_start (n := 8) (S := fun w' => w'.cell? ⟨b, 5, none⟩ = some (.slice (some ⟨g2, 0, none⟩) 1 cap2) ∧ w'.cell? ⟨wr.heap.size, 0, none⟩ = some (.slice A m c) ∧ w'.cell? ⟨wr.heap.size, 1, none⟩ = some (.int .i64 2) ∧ w'.cell? ⟨wr.heap.size, 2, none⟩ = some (.int .i64 bl) ∧ w'.cell? ⟨wr.heap.size, 3, none⟩ = some (.int .i64 i)) (by kernel_rfl) (by kernel_rfl) ?_
  refine' but_take (i := 0) (v := _) rfl (by kernel_rfl) (by kernel_rfl) (by kernel_rfl) (by kernel_rfl) (by kernel_rfl) (by kernel_rfl) (fun _ _ _ h => h) (Or.inl ⟨by rfl, ?hz0⟩) hS ?rz0
  case hz0 =>
    intro x hx
    obtain ⟨x5, y0, y1, y2, y3⟩ := hx
    go_simp
    try with_reducible rfl
  try simp only [Act.put, List.setIfInBounds_toArray, List.set_cons_zero, List.set_cons_succ]
  refine' but_take (i := 1) (v := _) rfl (by kernel_rfl) (by kernel_rfl) (by kernel_rfl) (by kernel_rfl) (by kernel_rfl) (by kernel_rfl) (fun _ _ _ h => h) (Or.inl ⟨by rfl, ?hz1⟩) hS ?rz1
  case hz1 =>
    intro x hx
    obtain ⟨x5, y0, y1, y2, y3⟩ := hx
    go_simp
    try with_reducible rfl
  try simp only [Act.put, List.setIfInBounds_toArray, List.set_cons_zero, List.set_cons_succ]
  refine' but_take (i := 2) (v := _) rfl (by kernel_rfl) (by kernel_rfl) (by kernel_rfl) (by kernel_rfl) (by kernel_rfl) (by kernel_rfl) (fun _ _ _ h => h) (Or.inl ⟨by rfl, ?hz2⟩) hS ?rz2
  case hz2 =>
    intro x hx
    obtain ⟨x5, y0, y1, y2, y3⟩ := hx
    go_simp
    try with_reducible rfl
  try simp only [Act.put, List.setIfInBounds_toArray, List.set_cons_zero, List.set_cons_succ]
  refine' but_take (i := 3) (v := _) rfl (by kernel_rfl) (by kernel_rfl) (by kernel_rfl) (by kernel_rfl) (by kernel_rfl) (by kernel_rfl) (fun _ _ _ h => h) (Or.inl ⟨by rfl, ?hz3⟩) hS ?rz3
  case hz3 =>
    intro x hx
    obtain ⟨x5, y0, y1, y2, y3⟩ := hx
    go_simp
    try with_reducible rfl
  try simp only [Act.put, List.setIfInBounds_toArray, List.set_cons_zero, List.set_cons_succ]
  refine' but_take (i := 4) (v := _) rfl (by kernel_rfl) (by kernel_rfl) (by kernel_rfl) (by kernel_rfl) (by kernel_rfl) (by kernel_rfl) (fun _ _ _ h => h) (Or.inl ⟨by rfl, ?hz4⟩) hS ?rz4
  case hz4 =>
    intro x hx
    obtain ⟨x5, y0, y1, y2, y3⟩ := hx
    go_simp
    try with_reducible rfl
  try simp only [Act.put, List.setIfInBounds_toArray, List.set_cons_zero, List.set_cons_succ]
  refine but_one (i := 5) rfl (by kernel_rfl) (by kernel_rfl) ?_
  intro K5 hK5
  go_simp
  refine hK5.out _ _ (HS.out (W4.drew.alloc (.cells #[.slice A m c, .int .i64 2, .int .i64 bl, .int .i64 i] 151)) none (grown_below (below_allocS ((Below.refl _ _).drew) _) none) (by simp) (by simp)) ?_
  clear hK5 K5
  try simp only [Act.put, List.setIfInBounds_toArray, List.set_cons_zero, List.set_cons_succ]
  refine but_one (i := 6) rfl (by kernel_rfl) (by kernel_rfl) ?_
  intro K6 hK6
  refine step_append_x _ (by rfl) _ _ 79 (by rfl) w0.heap.size 151 i0 _ 4 48 Tryd.underlying79 hi hz hsz hbb rfl (by omega) (.slice (some ⟨g2, 0, none⟩) 1 cap2) 1 _ (by rfl) ((HO4.out.drew).alloc _) (W4.heap.size + 1) (some ⟨W4.heap.size, 0, none⟩) 1 1 [.slice A m c, .int .i64 2, .int .i64 bl, .int .i64 i] (by rfl) (Reads.ofBlock (cs := #[.slice A m c, .int .i64 2, .int .i64 bl, .int .i64 i]) (new_at rfl) rfl (by omega)) (by simp [Value.oneCell']) (.inr (by omega)) (by unfold maxLen; omega) (by omega) (by simp; omega) (W4.heap.size + 1) (by simp) ?_
  intro g5 cap5 w5 hown5 hgrow5 hat5 hlt5
  have hg5 : W4.grownBy w5 (some g2) := grown_trans (grown_below (below_allocS ((Below.refl _ _).drew) _) _) hgrow5
  have hlt4 := hown4 g2 rfl
  have hS5 := HS.out w5 (some g2) hg5 (fun k hk => (by injection hk with hk; omega)) (fun e => (by injection e with e; exact absurd e (hgne)))
  have HL5 := Lib.hid (HL4.out.grown hg5 (fun e => by injection e with e; omega))
  have HG5 := Lib.hid (grown_own HG4.out hg5 (fun k hk => (by injection hk with hk; omega)))
  have HO5 := Lib.hid hown5
  refine hK6.out _ _ hS5 ?_
  clear hK6 K6 hS hown5 hgrow5 hat5 hlt5 hg5
  try simp only [Act.put, List.setIfInBounds_toArray, List.set_cons_zero, List.set_cons_succ]
  refine' but_take (i := 7) (v := _) rfl (by kernel_rfl) (by kernel_rfl) (by kernel_rfl) (by kernel_rfl) (by kernel_rfl) (by kernel_rfl) (fun _ _ _ h => h) (Or.inl ⟨by rfl, ?hz7⟩) hS5 ?rz7
  case hz7 =>
    intro x hx
    obtain ⟨x5, y0, y1, y2, y3⟩ := hx
    go_simp
    try with_reducible rfl
  try simp only [Act.put, List.setIfInBounds_toArray, List.set_cons_zero, List.set_cons_succ]
  refine but_last rfl (by kernel_rfl) (by kernel_rfl) ?_
  intro K8 hK8
  have f5 := (lexCells (show LexW w5 b s _ pos ls from HL5.out)).2.2.2.2.2.2.2
  go_simp
  refine hK8.out _ _ ?_
  clear hK8 K8 hS5 f5
  go_wp2_with fail
  go_end0
  exact ⟨rfl, ls, _, _, HL5.out.setTok _, grown_set HG5.out _ _, ownsRow_setCell_below HO5.out hl _⟩
set_option maxRecDepth 100000 in
set_option maxHeartbeats 3200000 in
theorem safeC {b : Nat} {s f g : ByteArray} {src : Option Addr} {w0 wr : World} {pos : Nat} {ls : Int} (h1 : LexW wr b s (K0 f g src) pos ls) (h2 : w0.grownBy wr (some b)) (hl : b < w0.heap.size) (bl i : Int) (A : Option Addr) (m c : Nat) (hm : 0 < m) (hm2 : m ≤ 2000000) :
    Calls Tryd.prog 74 #[.pointer (some ⟨b, 0, none⟩), .int .i64 2, .int .i64 bl, .int .i64 i, .slice A m c] wr (fun e w' => NoRes e ∧ FdI b s f g src w0 w' pos 2) := by
  have HL := Lib.hid h1
  have HG := Lib.hid h2
  clear h1 h2
  go_enter Tryd.func74, Tryd.ntmps74
  go_wp2_with fail
  refine (mk_any 2 bl i A m c _ (.inr (.inr ⟨rfl, hm⟩)) hm2).mono ?_
  rintro e1 w1 ⟨rfl, rfl⟩
  go_wp2_with fail
  have HLW := Lib.hid (HL.out.below (below_alloc2 wr (.cells #[.slice A m c, .int .i64 2, .int .i64 bl, .int .i64 i] 151) (.cells #[.slice A m c, .int .i64 2, .int .i64 bl, .int .i64 i] 151)))
  have HGW := Lib.hid (grown_trans HG.out (grown_below (below_alloc2 wr (.cells #[.slice A m c, .int .i64 2, .int .i64 bl, .int .i64 i] 151) (.cells #[.slice A m c, .int .i64 2, .int .i64 bl, .int .i64 i] 151)) _))
  have HR := Lib.hid (new_elem wr (.cells #[.slice A m c, .int .i64 2, .int .i64 bl, .int .i64 i] 151) A m c 2 bl i)
  generalize hW : (wr.alloc (.cells #[.slice A m c, .int .i64 2, .int .i64 bl, .int .i64 i] 151)).alloc (.cells #[.slice A m c, .int .i64 2, .int .i64 bl, .int .i64 i] 151) = W at HLW HGW HR ⊢
  clear hW
  have KF := Lib.hid (fapC (HLW.out.below ((Below.refl _ _).drew)) (grown_trans HGW.out (grown_below ((Below.refl _ _).drew) _)) hl bl i A m c hm hm2)
  have hS : (W.drew).cell? ⟨wr.heap.size + 1, 0, none⟩ = some (.slice A m c) ∧ (W.drew).cell? ⟨wr.heap.size + 1, 1, none⟩ = some (.int .i64 2) ∧ (W.drew).cell? ⟨wr.heap.size + 1, 2, none⟩ = some (.int .i64 bl) ∧ (W.drew).cell? ⟨wr.heap.size + 1, 3, none⟩ = some (.int .i64 i) := HR.out
  go_upto_region 1 with fail
  refine but_start (n := 4) (S := fun w' => w'.cell? ⟨wr.heap.size + 1, 0, none⟩ = some (.slice A m c) ∧ w'.cell? ⟨wr.heap.size + 1, 1, none⟩ = some (.int .i64 2) ∧ w'.cell? ⟨wr.heap.size + 1, 2, none⟩ = some (.int .i64 bl) ∧ w'.cell? ⟨wr.heap.size + 1, 3, none⟩ = some (.int .i64 i)) (by kernel_rfl) (by kernel_rfl) ?_
  refine' but_take (i := 0) (v := _) rfl (by kernel_rfl) (by kernel_rfl) (by kernel_rfl) (by kernel_rfl) (by kernel_rfl) (by kernel_rfl) (fun _ _ _ h => h) (Or.inl ⟨by rfl, ?hy0⟩) hS ?ry0
  case hy0 =>
    intro x hx
    obtain ⟨y0, y1, y2, y3⟩ := hx
    go_simp
    try with_reducible rfl
  try simp only [Act.put, List.setIfInBounds_toArray, List.set_cons_zero, List.set_cons_succ]
  refine' but_take (i := 1) (v := _) rfl (by kernel_rfl) (by kernel_rfl) (by kernel_rfl) (by kernel_rfl) (by kernel_rfl) (by kernel_rfl) (fun _ _ _ h => h) (Or.inl ⟨by rfl, ?hy1⟩) hS ?ry1
  case hy1 =>
    intro x hx
    obtain ⟨y0, y1, y2, y3⟩ := hx
    go_simp
    try with_reducible rfl
  try simp only [Act.put, List.setIfInBounds_toArray, List.set_cons_zero, List.set_cons_succ]
  refine' but_take (i := 2) (v := _) rfl (by kernel_rfl) (by kernel_rfl) (by kernel_rfl) (by kernel_rfl) (by kernel_rfl) (by kernel_rfl) (fun _ _ _ h => h) (Or.inl ⟨by rfl, ?hy2⟩) hS ?ry2
  case hy2 =>
    intro x hx
    obtain ⟨y0, y1, y2, y3⟩ := hx
    go_simp
    try with_reducible rfl
  try simp only [Act.put, List.setIfInBounds_toArray, List.set_cons_zero, List.set_cons_succ]
  refine' but_take (i := 3) (v := _) rfl (by kernel_rfl) (by kernel_rfl) (by kernel_rfl) (by kernel_rfl) (by kernel_rfl) (by kernel_rfl) (fun _ _ _ h => h) (Or.inl ⟨by rfl, ?hy3⟩) hS ?ry3
  case hy3 =>
    intro x hx
    obtain ⟨y0, y1, y2, y3⟩ := hx
    go_simp
    try with_reducible rfl
  try simp only [Act.put, List.setIfInBounds_toArray, List.set_cons_zero, List.set_cons_succ]
  refine but_last rfl (by kernel_rfl) (by kernel_rfl) ?_
  intro K4 hK4
  go_simp
  go_at_call 99
  refine KF.out.mono ?_
  rintro e3 w3 ⟨rfl, h3⟩
  have H3 := Lib.hid h3
  clear h3
  refine hK4.out _ _ ?_
  clear hK4 K4 hS
  go_wp2_with fail
  go_end0
  exact ⟨rfl, H3.out⟩
end Go.Proofs.YtpgmnggicmbacaaDoor
