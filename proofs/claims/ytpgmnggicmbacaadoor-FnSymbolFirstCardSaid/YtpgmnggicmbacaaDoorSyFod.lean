/-
  Fodder is added to the lexer's.
-/
import Derived.Test.YtpgmnggicmbacaaDoorSySym
namespace Go.Proofs.YtpgmnggicmbacaaDoor
open Go.Shelf Go.RowKit
set_option linter.unusedVariables false
set_option linter.unusedSimpArgs false

theorem info_fe : (Tryd.prog.info? 151).map (fun i => (i.zero, i.size, i.bytes)) = some (some (.agg #[.slice none 0 0, .int .i64 0, .int .i64 0, .int .i64 0]), 4, 48) := by kernel_rfl
/-- What MakeFodderElement takes. -/
def MkOk (k bl i : Int) (n : Nat) : Prop := (k = 0 ∧ n ≤ 1) ∨ (k = 1 ∧ n = 1 ∧ bl = 0 ∧ i = 0) ∨ (k = 2 ∧ 0 < n)
theorem mk_any (k bl i : Int) (A : Option Addr) (n c : Nat) (w : World) (hk : MkOk k bl i n) (hn2 : n ≤ 2000000) :
    Calls Tryd.prog 95 #[.int .i64 k, .int .i64 bl, .int .i64 i, .slice A n c] w fun e w' => e = .returned (.agg #[.slice A n c, .int .i64 k, .int .i64 bl, .int .i64 i]) ∧
      w' = w.alloc (.cells #[.slice A n c, .int .i64 k, .int .i64 bl, .int .i64 i] 151) := by
  rcases hk with ⟨rfl, h⟩ | ⟨rfl, rfl, rfl, rfl⟩ | ⟨rfl, h⟩
  · have h2 : ¬ (n : Int) > 1 := by omega
    go_enter Tryd.func95, Tryd.ntmps95
    go_wp2
    exact bodyPost_ret (v := .agg #[.slice A n c, .int .i64 0, .int .i64 bl, .int .i64 i]) (by simp [results, Tryd.results95, go_sem]) rfl ⟨rfl, rfl⟩
  · go_enter Tryd.func95, Tryd.ntmps95
    go_wp2
    exact bodyPost_ret (v := .agg #[.slice A 1 c, .int .i64 1, .int .i64 0, .int .i64 0]) (by simp [results, Tryd.results95, go_sem]) rfl ⟨rfl, rfl⟩
  · have h1 : ((n : Int) == 0) = false := by simp; omega
    have h2 : ¬ ((n : Int) = 0) := by omega
    go_enter Tryd.func95, Tryd.ntmps95
    go_wp2
    exact bodyPost_ret (v := .agg #[.slice A n c, .int .i64 2, .int .i64 bl, .int .i64 i]) (by simp [results, Tryd.results95, go_sem]) rfl ⟨rfl, rfl⟩
/-- The lexer, and its fodder: a row of n elements. -/
def FdI (b : Nat) (s f g : ByteArray) (src : Option Addr) (w0 wr : World) (pos n : Nat) : Prop :=
  ∃ (ls : Int) (F : Value) (xs : List Value), LexW wr b s { K0 f g src with tok := F } pos ls ∧ w0.grownBy wr (some b) ∧ wr.ownsRow w0.heap.size 151 4 F n xs
theorem grown_own {w0 wr w' : World} {b : Nat} {row : Option Nat} (h : w0.grownBy wr (some b)) (hg : wr.grownBy w' row) (hr : ∀ k, row = some k → w0.heap.size ≤ k) : w0.grownBy w' (some b) :=
  ⟨hg.os.trans h.os, hg.tape.trans h.tape, hg.output.trans h.output, Nat.le_trans h.size hg.size, fun k hk hne => (hg.block k (Nat.lt_of_lt_of_le hk h.size) (fun e => by have := hr k e.symm; omega)).trans (h.block k hk hne)⟩
theorem new_at {w : World} {n : Nat} {o : Obj} (h : w.heap.size = n) : (w.drew.alloc o).heap[n]? = some o := by
  subst h
  exact heap_alloc_new w.drew o
theorem below_alloc2 (w : World) (o1 o2 : Obj) : Below w.heap.size w ((w.alloc o1).alloc o2) := below_allocS (below_alloc1 w o1) o2
/-- The cells of an element that was made just now. -/
def ElAt (w : World) (g : Nat) (v0 v1 v2 v3 : Value) : Prop := w.cell? ⟨g, 0, none⟩ = some v0 ∧ w.cell? ⟨g, 1, none⟩ = some v1 ∧ w.cell? ⟨g, 2, none⟩ = some v2 ∧ w.cell? ⟨g, 3, none⟩ = some v3
theorem new_elem (w : World) (o1 : Obj) (A : Option Addr) (m c : Nat) (k bl i : Int) : ElAt ((w.alloc o1).alloc (.cells #[.slice A m c, .int .i64 k, .int .i64 bl, .int .i64 i] 151)) (w.heap.size + 1) (.slice A m c) (.int .i64 k) (.int .i64 bl) (.int .i64 i) := by
  have h := heap_alloc_new (w.alloc o1) (.cells #[.slice A m c, .int .i64 k, .int .i64 bl, .int .i64 i] 151)
  rw [show (w.alloc o1).heap.size = w.heap.size + 1 by simp] at h
  have hB : Blk ((w.alloc o1).alloc (.cells #[.slice A m c, .int .i64 k, .int .i64 bl, .int .i64 i] 151)) (w.heap.size + 1) 151 #[.slice A m c, .int .i64 k, .int .i64 bl, .int .i64 i] := h
  exact ⟨hB.cell 0, hB.cell 1, hB.cell 2, hB.cell 3⟩
theorem fd_keep {w : World} {b pos B g : Nat} {s : ByteArray} {K : LK} {ls : Int} {v0 v1 v2 v3 : Value} (h : LexW w b s K pos ls) (he : ElAt w g v0 v1 v2 v3) (hb : b < B) :
    ∀ w' row, w.grownBy w' row → (∀ k, row = some k → B ≤ k) → row ≠ some g → w'.cell? ⟨b, 5, none⟩ = some K.tok ∧ w'.cell? ⟨g, 0, none⟩ = some v0 ∧ w'.cell? ⟨g, 1, none⟩ = some v1 ∧ w'.cell? ⟨g, 2, none⟩ = some v2 ∧ w'.cell? ⟨g, 3, none⟩ = some v3 := by
  intro w' row hg hr hne
  obtain ⟨fr, ln, hB, -⟩ := h.grown hg (fun e => by have := hr b e.symm; omega)
  have k : ∀ {j : Nat} {u : Value}, w.cell? ⟨g, j, none⟩ = some u → w'.cell? ⟨g, j, none⟩ = some u := fun {j} {u} hc => by
    have hl := World.block_lt_of_cell? w _ hc
    have := hg.block g hl (fun e => hne e.symm)
    unfold World.cell? at hc ⊢
    simp only at hc ⊢
    rw [this]
    exact hc
  exact ⟨hB.cell 5, k he.1, k he.2.1, k he.2.2.1, k he.2.2.2⟩
set_option maxRecDepth 100000 in
set_option maxHeartbeats 3200000 in
set_option linter.unusedSimpArgs false in
theorem FdI.addC {b : Nat} {s f g : ByteArray} {src : Option Addr} {w0 wr : World} {pos n : Nat} (h : FdI b s f g src w0 wr pos n) (hl : b < w0.heap.size) (k bl i : Int) (A : Option Addr) (m c : Nat) (hk : MkOk k bl i m) (hm : m ≤ 2000000) (hn : n ≤ 1000) :
    Calls Tryd.prog 70 #[.pointer (some ⟨b, 0, none⟩), .int .i64 k, .int .i64 bl, .int .i64 i, .slice A m c] wr (fun e w' => NoRes e ∧ FdI b s f g src w0 w' pos (n + 1)) := by
  obtain ⟨ls, F, xs, h1, h2, h3⟩ := h
  have HL := Lib.hid h1
  have HG := Lib.hid h2
  have HO := Lib.hid h3
  obtain ⟨i0, hi, hz, hsz, hbb⟩ := info_parts2 info_fe
  clear h1 h2 h3
  go_enter Tryd.func70, Tryd.ntmps70
  go_wp2_with fail
  refine (mk_any k bl i A m c _ hk hm).mono ?_
  rintro e1 w1 ⟨rfl, rfl⟩
  go_wp2_with fail
  have HLW := Lib.hid (HL.out.below (below_alloc2 wr (.cells #[.slice A m c, .int .i64 k, .int .i64 bl, .int .i64 i] 151) (.cells #[.slice A m c, .int .i64 k, .int .i64 bl, .int .i64 i] 151)))
  have HGW := Lib.hid (grown_trans HG.out (grown_below (below_alloc2 wr (.cells #[.slice A m c, .int .i64 k, .int .i64 bl, .int .i64 i] 151) (.cells #[.slice A m c, .int .i64 k, .int .i64 bl, .int .i64 i] 151)) _))
  have HOW := Lib.hid ((HO.out.alloc (.cells #[.slice A m c, .int .i64 k, .int .i64 bl, .int .i64 i] 151)).alloc (.cells #[.slice A m c, .int .i64 k, .int .i64 bl, .int .i64 i] 151))
  have HR := Lib.hid (new_elem wr (.cells #[.slice A m c, .int .i64 k, .int .i64 bl, .int .i64 i] 151) A m c k bl i)
  have HZ : wr.heap.size < ((wr.alloc (.cells #[.slice A m c, .int .i64 k, .int .i64 bl, .int .i64 i] 151)).alloc (.cells #[.slice A m c, .int .i64 k, .int .i64 bl, .int .i64 i] 151)).heap.size := by simp; omega
  have hzw : w0.heap.size ≤ ((wr.alloc (.cells #[.slice A m c, .int .i64 k, .int .i64 bl, .int .i64 i] 151)).alloc (.cells #[.slice A m c, .int .i64 k, .int .i64 bl, .int .i64 i] 151)).heap.size := HGW.out.size
  have hsz0 : ((wr.alloc (.cells #[.slice A m c, .int .i64 k, .int .i64 bl, .int .i64 i] 151)).alloc (.cells #[.slice A m c, .int .i64 k, .int .i64 bl, .int .i64 i] 151)).heap.size = wr.heap.size + 2 := by simp
  have hown1 := HO.out.lt
  have hwr : w0.heap.size ≤ wr.heap.size := HG.out.size
  generalize hW : (wr.alloc (.cells #[.slice A m c, .int .i64 k, .int .i64 bl, .int .i64 i] 151)).alloc (.cells #[.slice A m c, .int .i64 k, .int .i64 bl, .int .i64 i] 151) = W at HLW HGW HOW HR HZ hzw hsz0 ⊢
  clear hW
  have HS := Lib.hid (fd_keep (w := W) (B := w0.heap.size) HLW.out HR.out hl)
  have hS := HS.out (W.drew) none (grown_below ((Below.refl _ _).drew) none) (by simp) (by simp)
  go_upto_region 1 with fail
  refine but_start (n := 10) (S := fun w' => w'.cell? ⟨b, 5, none⟩ = some F ∧ w'.cell? ⟨wr.heap.size + 1, 0, none⟩ = some (.slice A m c) ∧ w'.cell? ⟨wr.heap.size + 1, 1, none⟩ = some (.int .i64 k) ∧ w'.cell? ⟨wr.heap.size + 1, 2, none⟩ = some (.int .i64 bl) ∧ w'.cell? ⟨wr.heap.size + 1, 3, none⟩ = some (.int .i64 i)) (by kernel_rfl) (by kernel_rfl) ?_
  refine' but_take (i := 0) (v := _) rfl (by kernel_rfl) (by kernel_rfl) (by kernel_rfl) (by kernel_rfl) (by kernel_rfl) (by kernel_rfl) (fun _ _ _ h => h) (Or.inl ⟨by rfl, ?hy0⟩) hS ?rest0
  case hy0 =>
    intro x hx
    obtain ⟨x5, y0, y1, y2, y3⟩ := hx
    go_simp
    try with_reducible rfl
  try simp only [Act.put, List.setIfInBounds_toArray, List.set_cons_zero, List.set_cons_succ]
  refine' but_take (i := 1) (v := _) rfl (by kernel_rfl) (by kernel_rfl) (by kernel_rfl) (by kernel_rfl) (by kernel_rfl) (by kernel_rfl) (fun _ _ _ h => h) (Or.inl ⟨by rfl, ?hy1⟩) hS ?rest1
  case hy1 =>
    intro x hx
    obtain ⟨x5, y0, y1, y2, y3⟩ := hx
    go_simp
    try with_reducible rfl
  try simp only [Act.put, List.setIfInBounds_toArray, List.set_cons_zero, List.set_cons_succ]
  refine' but_take (i := 2) (v := _) rfl (by kernel_rfl) (by kernel_rfl) (by kernel_rfl) (by kernel_rfl) (by kernel_rfl) (by kernel_rfl) (fun _ _ _ h => h) (Or.inl ⟨by rfl, ?hy2⟩) hS ?rest2
  case hy2 =>
    intro x hx
    obtain ⟨x5, y0, y1, y2, y3⟩ := hx
    go_simp
    try with_reducible rfl
  try simp only [Act.put, List.setIfInBounds_toArray, List.set_cons_zero, List.set_cons_succ]
  refine' but_take (i := 3) (v := _) rfl (by kernel_rfl) (by kernel_rfl) (by kernel_rfl) (by kernel_rfl) (by kernel_rfl) (by kernel_rfl) (fun _ _ _ h => h) (Or.inl ⟨by rfl, ?hy3⟩) hS ?rest3
  case hy3 =>
    intro x hx
    obtain ⟨x5, y0, y1, y2, y3⟩ := hx
    go_simp
    try with_reducible rfl
  try simp only [Act.put, List.setIfInBounds_toArray, List.set_cons_zero, List.set_cons_succ]
  refine' but_take (i := 4) (v := _) rfl (by kernel_rfl) (by kernel_rfl) (by kernel_rfl) (by kernel_rfl) (by kernel_rfl) (by kernel_rfl) (fun _ _ _ h => h) (Or.inl ⟨by rfl, ?hy4⟩) hS ?rest4
  case hy4 =>
    intro x hx
    obtain ⟨x5, y0, y1, y2, y3⟩ := hx
    go_simp
    try with_reducible rfl
  try simp only [Act.put, List.setIfInBounds_toArray, List.set_cons_zero, List.set_cons_succ]
  refine' but_take (i := 5) (v := _) rfl (by kernel_rfl) (by kernel_rfl) (by kernel_rfl) (by kernel_rfl) (by kernel_rfl) (by kernel_rfl) (fun _ _ _ h => h) (Or.inl ⟨by rfl, ?hy5⟩) hS ?rest5
  case hy5 =>
    intro x hx
    obtain ⟨x5, y0, y1, y2, y3⟩ := hx
    go_simp
    try with_reducible rfl
  try simp only [Act.put, List.setIfInBounds_toArray, List.set_cons_zero, List.set_cons_succ]
  refine but_one (i := 6) rfl (by kernel_rfl) (by kernel_rfl) ?_
  intro K6 hK6
  go_simp
  refine hK6.out _ _ (HS.out (W.drew.alloc (.cells #[.slice A m c, .int .i64 k, .int .i64 bl, .int .i64 i] 151)) none (grown_below (((Below.refl _ _).drew).alloc (Nat.le_refl _) _) none) (by simp) (by simp)) ?_
  clear hK6 K6
  try simp only [Act.put, List.setIfInBounds_toArray, List.set_cons_zero, List.set_cons_succ]
  refine but_one (i := 7) rfl (by kernel_rfl) (by kernel_rfl) ?_
  intro K7 hK7
  refine step_append_x _ (by rfl) _ _ 79 (by rfl) w0.heap.size 151 i0 _ 4 48 Tryd.underlying79 hi hz hsz hbb rfl (by omega) F n xs (by rfl) ((HOW.out.drew).alloc _) (wr.heap.size + 3) (some ⟨wr.heap.size + 2, 0, none⟩) 1 1 [.slice A m c, .int .i64 k, .int .i64 bl, .int .i64 i] (by rfl) (Reads.ofBlock (cs := #[.slice A m c, .int .i64 k, .int .i64 bl, .int .i64 i]) (new_at hsz0) rfl (by omega)) (by simp [Value.oneCell']) (.inr (by omega)) (by unfold maxLen; omega) (by omega) (by simp; omega) (wr.heap.size + 3) (by simp; omega) ?_
  intro g2 cap2 w3 hown2 hgrow2 hat2 hlt2
  have hg3 : W.grownBy w3 F.ownBlock := grown_trans (grown_below (((Below.refl _ _).drew).alloc (Nat.le_refl _) _) _) hgrow2
  have hS3 := HS.out w3 F.ownBlock hg3 (fun k hk => (hown1 k hk).1) (fun e => by have := (hown1 _ e).2; omega)
  have HL3 := Lib.hid (HLW.out.grown hg3 (fun e => by have := (hown1 _ e.symm).1; omega))
  have HG3 := Lib.hid (grown_own HGW.out hg3 (fun k hk => (hown1 k hk).1))
  have HO3 := Lib.hid hown2
  refine hK7.out _ _ hS3 ?_
  clear hK7 K7 hS hown2 hgrow2 hat2 hlt2 hg3
  try simp only [Act.put, List.setIfInBounds_toArray, List.set_cons_zero, List.set_cons_succ]
  refine' but_take (i := 8) (v := _) rfl (by kernel_rfl) (by kernel_rfl) (by kernel_rfl) (by kernel_rfl) (by kernel_rfl) (by kernel_rfl) (fun _ _ _ h => h) (Or.inl ⟨by rfl, ?hy8⟩) hS3 ?rest8
  case hy8 =>
    intro x hx
    obtain ⟨x5, y0, y1, y2, y3⟩ := hx
    go_simp
    try with_reducible rfl
  try simp only [Act.put, List.setIfInBounds_toArray, List.set_cons_zero, List.set_cons_succ]
  refine' but_take (i := 9) (v := _) rfl (by kernel_rfl) (by kernel_rfl) (by kernel_rfl) (by kernel_rfl) (by kernel_rfl) (by kernel_rfl) (fun _ _ _ h => h) (Or.inl ⟨by rfl, ?hy9⟩) hS3 ?rest9
  case hy9 =>
    intro x hx
    obtain ⟨x5, y0, y1, y2, y3⟩ := hx
    go_simp
    try with_reducible rfl
  try simp only [Act.put, List.setIfInBounds_toArray, List.set_cons_zero, List.set_cons_succ]
  refine but_last rfl (by kernel_rfl) (by kernel_rfl) ?_
  intro K10 hK10
  have f5 := (lexCells (show LexW w3 b s _ pos ls from HL3.out)).2.2.2.2.2.2.2
  go_simp
  refine hK10.out _ _ ?_
  clear hK10 K10 hS3 f5
  go_wp2_with fail
  go_end0
  exact ⟨rfl, ls, _, _, HL3.out.setTok _, grown_set HG3.out _ _, ownsRow_setCell_below HO3.out hl _⟩
end Go.Proofs.YtpgmnggicmbacaaDoor
