/-
  The token's start set anew; a token is emitted. (Cell 4 of a lexer, K.fod, holds its tokens; cell 5, K.tok, its fodder.)
-/
import Derived.Test.YtpgmnggicmbacaaDoorSyLoc
import Derived.Test.YtpgmnggicmbacaaDoorSyAny
import Derived.Deep.RegionLaw
import Derived.Deep.RegionHeld3
namespace Go.Proofs.YtpgmnggicmbacaaDoor
open Go.Shelf Go.RowKit
set_option linter.unusedVariables false
set_option linter.unusedSimpArgs false

def LK.at_ (K : LK) (ts tl tc : Int) : LK := { K with ts := ts, tl := tl, tc := tc }
def RsPost2 (b : Nat) (s : ByteArray) (K : LK) (pos : Nat) (ls : Int) (w : World) (e : Ending) (w' : World) : Prop := e = .returned (.tuple #[]) ∧ (∃ a c, LexW w' b s (K.at_ pos a c) pos ls) ∧ w.grownBy w' (some b)
set_option maxRecDepth 100000 in
set_option maxHeartbeats 1600000 in
theorem resetStart_any (b : Nat) (s : ByteArray) (K : LK) (pos : Nat) (ls : Int) (hp : pos ≤ 1000004) (w : World) (h : LexW w b s K pos ls) : Calls Tryd.prog 79 #[.pointer (some ⟨b, 0, none⟩)] w (RsPost2 b s K pos ls w) := by
  have hbl := h.lt
  obtain ⟨fr, ln, hB, h3, h4⟩ := h
  obtain ⟨f, g, src, fod, tok, ts, tl, tc⟩ := K
  simp only at hB
  have c10 := hB.cell 10
  have c6 := hB.cell 6
  have f6 := hB.frozen 6
  simp only [cellsX, List.getElem?_toArray, List.getElem?_cons_zero, List.getElem?_cons_succ] at c10 c6
  have hB1 : Blk (w.setCell ⟨b, 6, none⟩ (.int .i64 pos)) b 81 (cellsX f g s src fod tok pos tl tc fr pos ln ls) := by simpa [cellsX] using hB.set_ 6 (.int .i64 pos)
  have KL := Lib.hid (loc_any b s ⟨f, g, src, fod, tok, pos, tl, tc⟩ pos ls hp _ ⟨fr, ln, hB1, h3, h4⟩)
  have HB1 := Lib.hid hB1
  have HG := Lib.hid (grown_set (grown_below (Below.refl w.heap.size w) (some b)) 6 (.int .i64 pos))
  have HH := Lib.hid (And.intro h3 h4)
  clear hB hB1 h3 h4
  go_enter Tryd.func79, Tryd.ntmps79
  go_wp2_with fail
  refine KL.out.mono ?_
  rintro e1 w1 ⟨⟨a, c, rfl⟩, hb1⟩
  have hB2 := HB1.out.below hb1 HB1.out.lt
  have c7 := hB2.cell 7
  have c8 := hB2.cell 8
  have f7 := hB2.frozen 7
  have f8 := hB2.frozen 8
  simp only [cellsX, List.getElem?_toArray, List.getElem?_cons_zero, List.getElem?_cons_succ] at c7 c8
  have HB3 : Hid (Blk ((w1.setCell ⟨b, 7, none⟩ (.int .i64 a)).setCell ⟨b, 8, none⟩ (.int .i64 c)) b 81 (cellsX f g s src fod tok pos a c fr pos ln ls)) := Lib.hid (by simpa [cellsX] using (hB2.set_ 7 (.int .i64 a)).set_ 8 (.int .i64 c))
  have HG3 := Lib.hid (grown_set (grown_set (grown_trans HG.out (grown_below hb1 _)) 7 (.int .i64 a)) 8 (.int .i64 c))
  clear hB2 hb1
  go_wp2_with fail
  go_end0
  exact ⟨rfl, ⟨a, c, fr, ln, HB3.out, HH.out.1, HH.out.2⟩, HG3.out⟩
theorem info_tok : (Tryd.prog.info? 123).map (fun i => (i.zero, i.size, i.bytes)) = some (some (.agg #[.slice none 0 0, .string ByteArray.empty, .string ByteArray.empty, .string ByteArray.empty, .pointer none, .string ByteArray.empty, .int .i64 0, .int .i64 0, .int .i64 0, .int .i64 0, .int .i64 0]), 11, 136) := by kernel_rfl
theorem info_parts2 {t : TypeId} {z : Value} {n b : Nat} (h : (Tryd.prog.info? t).map (fun i => (i.zero, i.size, i.bytes)) = some (some z, n, b)) : ∃ i, Tryd.prog.info? t = some i ∧ i.zero = some z ∧ i.size = n ∧ i.bytes = b := by
  cases hq : Tryd.prog.info? t with
  | none => rw [hq] at h; cases h
  | some i =>
    rw [hq] at h
    simp only [Option.map_some, Option.some.injEq, Prod.mk.injEq] at h
    exact ⟨i, rfl, h.1, h.2.1, h.2.2⟩
def tokCells (fd : Value) (d i1 i2 : ByteArray) (p : Option Addr) (g : ByteArray) (a c x y k : Int) : Array Value := #[fd, .string d, .string i1, .string i2, .pointer p, .string g, .int .i64 a, .int .i64 c, .int .i64 x, .int .i64 y, .int .i64 k]
/-- A token lies emitted. -/
def EmPost (b : Nat) (s : ByteArray) (K : LK) (pos : Nat) (ls k : Int) (d : ByteArray) (w : World) (e : Ending) (w' : World) : Prop :=
  NoRes e ∧ ∃ (g cap : Nat) (F : Value), LexW w' b s { K with fod := .slice (some ⟨g, 0, none⟩) 1 cap, tok := F } pos ls ∧ w'.cell? ⟨g, 1, none⟩ = some (.string d) ∧ w'.cell? ⟨g, 10, none⟩ = some (.int .i64 k) ∧ g ≠ b ∧ w.grownBy w' (some b)
theorem lexCells {w : World} {b : Nat} {s f g : ByteArray} {p : Option Addr} {T F : Value} {ts tl tc : Int} {pos : Nat} {ls : Int} (h : LexW w b s ⟨f, g, .pointer p, T, F, ts, tl, tc⟩ pos ls) :
    w.cell? ⟨b, 1, none⟩ = some (.string g) ∧ w.cell? ⟨b, 3, none⟩ = some (.pointer p) ∧ w.cell? ⟨b, 4, none⟩ = some T ∧ w.cell? ⟨b, 5, none⟩ = some F ∧ w.cell? ⟨b, 7, none⟩ = some (.int .i64 tl) ∧ w.cell? ⟨b, 8, none⟩ = some (.int .i64 tc) ∧ w.frozen? ⟨b, 4, none⟩ = false ∧ w.frozen? ⟨b, 5, none⟩ = false := by
  obtain ⟨fr, ln, hB, -⟩ := h
  exact ⟨hB.cell 1, hB.cell 3, hB.cell 4, hB.cell 5, hB.cell 7, hB.cell 8, hB.frozen 4, hB.frozen 5⟩
theorem LexW.setTok {w : World} {b : Nat} {s : ByteArray} {K : LK} {pos : Nat} {ls : Int} (h : LexW w b s K pos ls) (v : Value) : LexW (w.setCell ⟨b, 5, none⟩ v) b s { K with tok := v } pos ls := by
  obtain ⟨fr, ln, hB, h1⟩ := h
  exact ⟨fr, ln, by simpa [cellsX] using hB.set_ 5 v, h1⟩
theorem LexW.setFod {w : World} {b : Nat} {s : ByteArray} {K : LK} {pos : Nat} {ls : Int} (h : LexW w b s K pos ls) (v : Value) : LexW (w.setCell ⟨b, 4, none⟩ v) b s { K with fod := v } pos ls := by
  obtain ⟨fr, ln, hB, h1⟩ := h
  exact ⟨fr, ln, by simpa [cellsX] using hB.set_ 4 v, h1⟩
theorem LexW.grown {w w' : World} {b : Nat} {s : ByteArray} {K : LK} {pos : Nat} {ls : Int} {row : Option Nat} (h : LexW w b s K pos ls) (hg : w.grownBy w' row) (hr : some b ≠ row) : LexW w' b s K pos ls := by
  obtain ⟨fr, ln, hB, h1⟩ := h
  exact ⟨fr, ln, hB.grown hg hr, h1⟩
theorem keepT {w w' : World} (hb : Below w.heap.size w w') {p1 p2 p3 p4 p5 p6 : Addr} {u1 u2 u3 u4 u5 u6 : Value} (c1 : w.cell? p1 = some u1) (c2 : w.cell? p2 = some u2) (c3 : w.cell? p3 = some u3) (c4 : w.cell? p4 = some u4) (c5 : w.cell? p5 = some u5) (c6 : w.cell? p6 = some u6) :
    Below w.heap.size w w' ∧ w'.cell? p1 = some u1 ∧ w'.cell? p2 = some u2 ∧ w'.cell? p3 = some u3 ∧ w'.cell? p4 = some u4 ∧ w'.cell? p5 = some u5 ∧ w'.cell? p6 = some u6 :=
  have k : ∀ {p : Addr} {u : Value}, w.cell? p = some u → w'.cell? p = some u := fun {p} {_} h => (hb.cell (World.block_lt_of_cell? w p h)).trans h
  ⟨hb, k c1, k c2, k c3, k c4, k c5, k c6⟩
set_option maxRecDepth 100000 in
set_option maxHeartbeats 6400000 in
set_option linter.unusedSimpArgs false in
theorem emitFull_any (b : Nat) (s d i1 i2 f g : ByteArray) (p : Option Addr) (F : Option Addr) (nf cf : Nat) (ts tl tc : Int) (pos : Nat) (ls k : Int) (hp : pos ≤ 1000004) (w : World) (h : LexW w b s ⟨f, g, .pointer p, .slice none 0 0, .slice F nf cf, ts, tl, tc⟩ pos ls) :
    Calls Tryd.prog 78 #[.pointer (some ⟨b, 0, none⟩), .int .i64 k, .string d, .string i1, .string i2] w (EmPost b s ⟨f, g, .pointer p, .slice none 0 0, .slice F nf cf, ts, tl, tc⟩ pos ls k d w) := by
  have hbl := h.lt
  have HL := Lib.hid h
  obtain ⟨i0, hi, hz, hsz, hbb⟩ := info_parts2 info_tok
  clear h
  obtain ⟨c1, c3, c4, c5, c7, c8, f4, f5⟩ := lexCells (show LexW w b s _ pos ls from HL.out)
  have hS := keepT (w := w) ((Below.refl _ _).drew) c1 c3 c4 c5 c7 c8
  go_enter Tryd.func78, Tryd.ntmps78
  go_upto_region 0 with fail
  refine but_start (n := 33) (S := fun w' => Below w.heap.size w w' ∧ w'.cell? ⟨b, 1, none⟩ = some (.string g) ∧ w'.cell? ⟨b, 3, none⟩ = some (.pointer p) ∧ w'.cell? ⟨b, 4, none⟩ = some (.slice none 0 0) ∧ w'.cell? ⟨b, 5, none⟩ = some (.slice F nf cf) ∧ w'.cell? ⟨b, 7, none⟩ = some (.int .i64 tl) ∧ w'.cell? ⟨b, 8, none⟩ = some (.int .i64 tc)) (by kernel_rfl) (by kernel_rfl) ?_
  refine' but_take (i := 0) (v := _) rfl (by kernel_rfl) (by kernel_rfl) (by kernel_rfl) (by kernel_rfl) (by kernel_rfl) (by kernel_rfl) (fun _ _ _ h => h) (Or.inl ⟨by rfl, ?hy0⟩) hS ?rest0
  case hy0 =>
    intro x hx
    obtain ⟨-, x1, x3, x4, x5, x7, x8⟩ := hx
    go_simp
    try with_reducible rfl
  try simp only [Act.put, List.setIfInBounds_toArray, List.set_cons_zero, List.set_cons_succ]
  refine' but_take (i := 1) (v := _) rfl (by kernel_rfl) (by kernel_rfl) (by kernel_rfl) (by kernel_rfl) (by kernel_rfl) (by kernel_rfl) (fun _ _ _ h => h) (Or.inl ⟨by rfl, ?hy1⟩) hS ?rest1
  case hy1 =>
    intro x hx
    obtain ⟨-, x1, x3, x4, x5, x7, x8⟩ := hx
    go_simp
    try with_reducible rfl
  try simp only [Act.put, List.setIfInBounds_toArray, List.set_cons_zero, List.set_cons_succ]
  refine' but_take (i := 2) (v := _) rfl (by kernel_rfl) (by kernel_rfl) (by kernel_rfl) (by kernel_rfl) (by kernel_rfl) (by kernel_rfl) (fun _ _ _ h => h) (Or.inl ⟨by rfl, ?hy2⟩) hS ?rest2
  case hy2 =>
    intro x hx
    obtain ⟨-, x1, x3, x4, x5, x7, x8⟩ := hx
    go_simp
    try with_reducible rfl
  try simp only [Act.put, List.setIfInBounds_toArray, List.set_cons_zero, List.set_cons_succ]
  refine' but_take (i := 3) (v := _) rfl (by kernel_rfl) (by kernel_rfl) (by kernel_rfl) (by kernel_rfl) (by kernel_rfl) (by kernel_rfl) (fun _ _ _ h => h) (Or.inl ⟨by rfl, ?hy3⟩) hS ?rest3
  case hy3 =>
    intro x hx
    obtain ⟨-, x1, x3, x4, x5, x7, x8⟩ := hx
    go_simp
    try with_reducible rfl
  try simp only [Act.put, List.setIfInBounds_toArray, List.set_cons_zero, List.set_cons_succ]
  refine' but_take (i := 4) (v := _) rfl (by kernel_rfl) (by kernel_rfl) (by kernel_rfl) (by kernel_rfl) (by kernel_rfl) (by kernel_rfl) (fun _ _ _ h => h) (Or.inl ⟨by rfl, ?hy4⟩) hS ?rest4
  case hy4 =>
    intro x hx
    obtain ⟨-, x1, x3, x4, x5, x7, x8⟩ := hx
    go_simp
    try with_reducible rfl
  try simp only [Act.put, List.setIfInBounds_toArray, List.set_cons_zero, List.set_cons_succ]
  refine' but_take (i := 5) (v := _) rfl (by kernel_rfl) (by kernel_rfl) (by kernel_rfl) (by kernel_rfl) (by kernel_rfl) (by kernel_rfl) (fun _ _ _ h => h) (Or.inl ⟨by rfl, ?hy5⟩) hS ?rest5
  case hy5 =>
    intro x hx
    obtain ⟨-, x1, x3, x4, x5, x7, x8⟩ := hx
    go_simp
    try with_reducible rfl
  try simp only [Act.put, List.setIfInBounds_toArray, List.set_cons_zero, List.set_cons_succ]
  refine' but_take (i := 6) (v := _) rfl (by kernel_rfl) (by kernel_rfl) (by kernel_rfl) (by kernel_rfl) (by kernel_rfl) (by kernel_rfl) (fun _ _ _ h => h) (Or.inl ⟨by rfl, ?hy6⟩) hS ?rest6
  case hy6 =>
    intro x hx
    obtain ⟨-, x1, x3, x4, x5, x7, x8⟩ := hx
    go_simp
    try with_reducible rfl
  try simp only [Act.put, List.setIfInBounds_toArray, List.set_cons_zero, List.set_cons_succ]
  refine' but_take (i := 7) (v := _) rfl (by kernel_rfl) (by kernel_rfl) (by kernel_rfl) (by kernel_rfl) (by kernel_rfl) (by kernel_rfl) (fun _ _ _ h => h) (Or.inl ⟨by rfl, ?hy7⟩) hS ?rest7
  case hy7 =>
    intro x hx
    obtain ⟨-, x1, x3, x4, x5, x7, x8⟩ := hx
    go_simp
    try with_reducible rfl
  try simp only [Act.put, List.setIfInBounds_toArray, List.set_cons_zero, List.set_cons_succ]
  refine' but_take (i := 8) (v := _) rfl (by kernel_rfl) (by kernel_rfl) (by kernel_rfl) (by kernel_rfl) (by kernel_rfl) (by kernel_rfl) (fun _ _ _ h => h) (Or.inl ⟨by rfl, ?hy8⟩) hS ?rest8
  case hy8 =>
    intro x hx
    obtain ⟨-, x1, x3, x4, x5, x7, x8⟩ := hx
    go_simp
    try with_reducible rfl
  try simp only [Act.put, List.setIfInBounds_toArray, List.set_cons_zero, List.set_cons_succ]
  refine' but_take (i := 9) (v := _) rfl (by kernel_rfl) (by kernel_rfl) (by kernel_rfl) (by kernel_rfl) (by kernel_rfl) (by kernel_rfl) (fun _ _ _ h => h) (Or.inl ⟨by rfl, ?hy9⟩) hS ?rest9
  case hy9 =>
    intro x hx
    obtain ⟨-, x1, x3, x4, x5, x7, x8⟩ := hx
    go_simp
    try with_reducible rfl
  try simp only [Act.put, List.setIfInBounds_toArray, List.set_cons_zero, List.set_cons_succ]
  refine' but_take (i := 10) (v := _) rfl (by kernel_rfl) (by kernel_rfl) (by kernel_rfl) (by kernel_rfl) (by kernel_rfl) (by kernel_rfl) (fun _ _ _ h => h) (Or.inl ⟨by rfl, ?hy10⟩) hS ?rest10
  case hy10 =>
    intro x hx
    obtain ⟨-, x1, x3, x4, x5, x7, x8⟩ := hx
    go_simp
    try with_reducible rfl
  try simp only [Act.put, List.setIfInBounds_toArray, List.set_cons_zero, List.set_cons_succ]
  refine' but_take (i := 11) (v := _) rfl (by kernel_rfl) (by kernel_rfl) (by kernel_rfl) (by kernel_rfl) (by kernel_rfl) (by kernel_rfl) (fun _ _ _ h => h) (Or.inl ⟨by rfl, ?hy11⟩) hS ?rest11
  case hy11 =>
    intro x hx
    obtain ⟨-, x1, x3, x4, x5, x7, x8⟩ := hx
    go_simp
    try with_reducible rfl
  try simp only [Act.put, List.setIfInBounds_toArray, List.set_cons_zero, List.set_cons_succ]
  refine' but_take (i := 12) (v := _) rfl (by kernel_rfl) (by kernel_rfl) (by kernel_rfl) (by kernel_rfl) (by kernel_rfl) (by kernel_rfl) (fun _ _ _ h => h) (Or.inl ⟨by rfl, ?hy12⟩) hS ?rest12
  case hy12 =>
    intro x hx
    obtain ⟨-, x1, x3, x4, x5, x7, x8⟩ := hx
    go_simp
    try with_reducible rfl
  try simp only [Act.put, List.setIfInBounds_toArray, List.set_cons_zero, List.set_cons_succ]
  refine' but_take (i := 13) (v := _) rfl (by kernel_rfl) (by kernel_rfl) (by kernel_rfl) (by kernel_rfl) (by kernel_rfl) (by kernel_rfl) (fun _ _ _ h => h) (Or.inl ⟨by rfl, ?hy13⟩) hS ?rest13
  case hy13 =>
    intro x hx
    obtain ⟨-, x1, x3, x4, x5, x7, x8⟩ := hx
    go_simp
    try with_reducible rfl
  try simp only [Act.put, List.setIfInBounds_toArray, List.set_cons_zero, List.set_cons_succ]
  refine' but_take (i := 14) (v := _) rfl (by kernel_rfl) (by kernel_rfl) (by kernel_rfl) (by kernel_rfl) (by kernel_rfl) (by kernel_rfl) (fun _ _ _ h => h) (Or.inl ⟨by rfl, ?hy14⟩) hS ?rest14
  case hy14 =>
    intro x hx
    obtain ⟨-, x1, x3, x4, x5, x7, x8⟩ := hx
    go_simp
    try with_reducible rfl
  try simp only [Act.put, List.setIfInBounds_toArray, List.set_cons_zero, List.set_cons_succ]
  refine' but_take (i := 15) (v := _) rfl (by kernel_rfl) (by kernel_rfl) (by kernel_rfl) (by kernel_rfl) (by kernel_rfl) (by kernel_rfl) (fun _ _ _ h => h) (Or.inl ⟨by rfl, ?hy15⟩) hS ?rest15
  case hy15 =>
    intro x hx
    obtain ⟨-, x1, x3, x4, x5, x7, x8⟩ := hx
    go_simp
    try with_reducible rfl
  try simp only [Act.put, List.setIfInBounds_toArray, List.set_cons_zero, List.set_cons_succ]
  refine' but_take (i := 16) (v := _) rfl (by kernel_rfl) (by kernel_rfl) (by kernel_rfl) (by kernel_rfl) (by kernel_rfl) (by kernel_rfl) (fun _ _ _ h => h) (Or.inl ⟨by rfl, ?hy16⟩) hS ?rest16
  case hy16 =>
    intro x hx
    obtain ⟨-, x1, x3, x4, x5, x7, x8⟩ := hx
    go_simp
    try with_reducible rfl
  try simp only [Act.put, List.setIfInBounds_toArray, List.set_cons_zero, List.set_cons_succ]
  refine' but_take (i := 17) (v := _) rfl (by kernel_rfl) (by kernel_rfl) (by kernel_rfl) (by kernel_rfl) (by kernel_rfl) (by kernel_rfl) (fun _ _ _ h => h) (Or.inl ⟨by rfl, ?hy17⟩) hS ?rest17
  case hy17 =>
    intro x hx
    obtain ⟨-, x1, x3, x4, x5, x7, x8⟩ := hx
    go_simp
    try with_reducible rfl
  try simp only [Act.put, List.setIfInBounds_toArray, List.set_cons_zero, List.set_cons_succ]
  refine' but_take (i := 18) (v := _) rfl (by kernel_rfl) (by kernel_rfl) (by kernel_rfl) (by kernel_rfl) (by kernel_rfl) (by kernel_rfl) (fun _ _ _ h => h) (Or.inl ⟨by rfl, ?hy18⟩) hS ?rest18
  case hy18 =>
    intro x hx
    obtain ⟨-, x1, x3, x4, x5, x7, x8⟩ := hx
    go_simp
    try with_reducible rfl
  try simp only [Act.put, List.setIfInBounds_toArray, List.set_cons_zero, List.set_cons_succ]
  refine' but_take (i := 19) (v := _) rfl (by kernel_rfl) (by kernel_rfl) (by kernel_rfl) (by kernel_rfl) (by kernel_rfl) (by kernel_rfl) (fun _ _ _ h => h) (Or.inl ⟨by rfl, ?hy19⟩) hS ?rest19
  case hy19 =>
    intro x hx
    obtain ⟨-, x1, x3, x4, x5, x7, x8⟩ := hx
    go_simp
    try with_reducible rfl
  try simp only [Act.put, List.setIfInBounds_toArray, List.set_cons_zero, List.set_cons_succ]
  refine' but_take (i := 20) (v := _) rfl (by kernel_rfl) (by kernel_rfl) (by kernel_rfl) (by kernel_rfl) (by kernel_rfl) (by kernel_rfl) (fun _ _ _ h => h) (Or.inl ⟨by rfl, ?hy20⟩) hS ?rest20
  case hy20 =>
    intro x hx
    obtain ⟨-, x1, x3, x4, x5, x7, x8⟩ := hx
    go_simp
    try with_reducible rfl
  try simp only [Act.put, List.setIfInBounds_toArray, List.set_cons_zero, List.set_cons_succ]
  refine' but_take (i := 21) (v := _) rfl (by kernel_rfl) (by kernel_rfl) (by kernel_rfl) (by kernel_rfl) (by kernel_rfl) (by kernel_rfl) (fun _ _ _ h => h) (Or.inl ⟨by rfl, ?hy21⟩) hS ?rest21
  case hy21 =>
    intro x hx
    obtain ⟨-, x1, x3, x4, x5, x7, x8⟩ := hx
    go_simp
    try with_reducible rfl
  try simp only [Act.put, List.setIfInBounds_toArray, List.set_cons_zero, List.set_cons_succ]
  refine' but_take (i := 22) (v := _) rfl (by kernel_rfl) (by kernel_rfl) (by kernel_rfl) (by kernel_rfl) (by kernel_rfl) (by kernel_rfl) (fun _ _ _ h => h) (Or.inl ⟨by rfl, ?hy22⟩) hS ?rest22
  case hy22 =>
    intro x hx
    obtain ⟨-, x1, x3, x4, x5, x7, x8⟩ := hx
    go_simp
    try with_reducible rfl
  try simp only [Act.put, List.setIfInBounds_toArray, List.set_cons_zero, List.set_cons_succ]
  refine' but_take (i := 23) (v := _) rfl (by kernel_rfl) (by kernel_rfl) (by kernel_rfl) (by kernel_rfl) (by kernel_rfl) (by kernel_rfl) (fun _ _ _ h => h) (Or.inl ⟨by rfl, ?hy23⟩) hS ?rest23
  case hy23 =>
    intro x hx
    obtain ⟨-, x1, x3, x4, x5, x7, x8⟩ := hx
    go_simp
    try with_reducible rfl
  try simp only [Act.put, List.setIfInBounds_toArray, List.set_cons_zero, List.set_cons_succ]
  refine' but_take (i := 24) (v := _) rfl (by kernel_rfl) (by kernel_rfl) (by kernel_rfl) (by kernel_rfl) (by kernel_rfl) (by kernel_rfl) (fun _ _ _ h => h) (Or.inl ⟨by rfl, ?hy24⟩) hS ?rest24
  case hy24 =>
    intro x hx
    obtain ⟨-, x1, x3, x4, x5, x7, x8⟩ := hx
    go_simp
    try with_reducible rfl
  try simp only [Act.put, List.setIfInBounds_toArray, List.set_cons_zero, List.set_cons_succ]
  refine' but_take (i := 25) (v := _) rfl (by kernel_rfl) (by kernel_rfl) (by kernel_rfl) (by kernel_rfl) (by kernel_rfl) (by kernel_rfl) (fun _ _ _ h => h) (Or.inl ⟨by rfl, ?hy25⟩) hS ?rest25
  case hy25 =>
    intro x hx
    obtain ⟨-, x1, x3, x4, x5, x7, x8⟩ := hx
    go_simp
    try with_reducible rfl
  try simp only [Act.put, List.setIfInBounds_toArray, List.set_cons_zero, List.set_cons_succ]
  refine but_one (i := 26) rfl (by kernel_rfl) (by kernel_rfl) ?_
  intro K26 hK26
  go_simp
  go_at_call 101
  refine (loc_any b s _ pos ls hp _ (show LexW w.drew b s _ pos ls from HL.out)).mono ?_
  rintro e8 w8 ⟨⟨a8, x8, rfl⟩, h8⟩
  have hS8 := keepT (w := w) ((Below.refl w.heap.size w).drew.trans h8) c1 c3 c4 c5 c7 c8
  refine hK26.out _ _ hS8 ?_
  clear hK26 K26
  try simp only [Act.put, List.setIfInBounds_toArray, List.set_cons_zero, List.set_cons_succ]
  refine but_one (i := 27) rfl (by kernel_rfl) (by kernel_rfl) ?_
  intro K27 hK27
  go_simp
  go_at_call 96
  refine (mlr_any _ _ _ _ _ _ _).mono ?_
  rintro e9 w9 ⟨rfl, h9⟩
  have hb9 : Below w.heap.size w w9 := hS8.1.trans (h9.mono hS8.1.size)
  have hS9 := keepT (w := w) hb9 c1 c3 c4 c5 c7 c8
  have HL9 := Lib.hid (HL.out.below hb9)
  have hz9 : w.heap.size ≤ w9.heap.size := hb9.size
  refine hK27.out _ _ hS9 ?_
  clear hK27 K27 h9 h8 hS8
  try simp only [Act.put, List.setIfInBounds_toArray, List.set_cons_zero, List.set_cons_succ]
  refine' but_take (i := 28) (v := _) rfl (by kernel_rfl) (by kernel_rfl) (by kernel_rfl) (by kernel_rfl) (by kernel_rfl) (by kernel_rfl) (fun _ _ _ h => h) (Or.inl ⟨by rfl, ?hy28⟩) hS9 ?rest28
  case hy28 =>
    intro x hx
    obtain ⟨-, x1, x3, x4, x5, x7, x8⟩ := hx
    go_simp
    try with_reducible rfl
  try simp only [Act.put, List.setIfInBounds_toArray, List.set_cons_zero, List.set_cons_succ]
  refine but_one (i := 29) rfl (by kernel_rfl) (by kernel_rfl) ?_
  intro K29 hK29
  go_simp
  refine hK29.out _ _ (keepT (w := w) (below_allocS hb9 (.cells #[.slice F nf cf, .string d, .string i1, .string i2, .pointer p, .string g, .int .i64 tl, .int .i64 tc, .int .i64 a8, .int .i64 x8, .int .i64 k] 123)) c1 c3 c4 c5 c7 c8) ?_
  clear hK29 K29
  try simp only [Act.put, List.setIfInBounds_toArray, List.set_cons_zero, List.set_cons_succ]
  refine but_one (i := 30) rfl (by kernel_rfl) (by kernel_rfl) ?_
  intro K30 hK30
  refine step_append_x _ (by rfl) _ _ 77 (by rfl) w.heap.size 123 i0 _ 11 136 Tryd.underlying77 hi hz hsz hbb rfl (by omega) (.slice none 0 0) 0 [] (by rfl) (World.ownsRow_nil _ _ _ _) (w9.heap.size + 1) (some ⟨w9.heap.size, 0, none⟩) 1 1 [.slice F nf cf, .string d, .string i1, .string i2, .pointer p, .string g, .int .i64 tl, .int .i64 tc, .int .i64 a8, .int .i64 x8, .int .i64 k] (by rfl) (Reads.ofBlock (cs := #[.slice F nf cf, .string d, .string i1, .string i2, .pointer p, .string g, .int .i64 tl, .int .i64 tc, .int .i64 a8, .int .i64 x8, .int .i64 k]) (heap_alloc_new _ _) rfl (by omega)) (by simp [Value.oneCell']) (.inr (by omega)) (by unfold maxLen; omega) (by omega) (by simp; omega) (w9.heap.size + 1) (by simp) ?_
  intro g2 cap2 w3 hown2 hgrow2 hat2 hlt2
  have hb3 : Below w.heap.size w w3 := (below_allocS hb9 (.cells #[.slice F nf cf, .string d, .string i1, .string i2, .pointer p, .string g, .int .i64 tl, .int .i64 tc, .int .i64 a8, .int .i64 x8, .int .i64 k] 123)).grown hgrow2 (by simp; omega) (fun k hk => by simp [Value.ownBlock] at hk)
  have hS3 := keepT (w := w) hb3 c1 c3 c4 c5 c7 c8
  have HL3 := Lib.hid (HL.out.below hb3)
  obtain ⟨t1, t3, t4, t5, t7, t8, t4f, t5f⟩ := lexCells HL3.out
  refine hK30.out _ _ hS3 ?_
  clear hK30 K30 hS9 hS
  try simp only [Act.put, List.setIfInBounds_toArray, List.set_cons_zero, List.set_cons_succ]
  refine' but_take (i := 31) (v := _) rfl (by kernel_rfl) (by kernel_rfl) (by kernel_rfl) (by kernel_rfl) (by kernel_rfl) (by kernel_rfl) (fun _ _ _ h => h) (Or.inl ⟨by rfl, ?hy31⟩) hS3 ?rest31
  case hy31 =>
    intro x hx
    obtain ⟨-, x1, x3, x4, x5, x7, x8⟩ := hx
    go_simp
    try with_reducible rfl
  try simp only [Act.put, List.setIfInBounds_toArray, List.set_cons_zero, List.set_cons_succ]
  refine' but_take (i := 32) (v := _) rfl (by kernel_rfl) (by kernel_rfl) (by kernel_rfl) (by kernel_rfl) (by kernel_rfl) (by kernel_rfl) (fun _ _ _ h => h) (Or.inl ⟨by rfl, ?hy32⟩) hS3 ?rest32
  case hy32 =>
    intro x hx
    obtain ⟨-, x1, x3, x4, x5, x7, x8⟩ := hx
    go_simp
    try with_reducible rfl
  try simp only [Act.put, List.setIfInBounds_toArray, List.set_cons_zero, List.set_cons_succ]
  refine but_last rfl (by kernel_rfl) (by kernel_rfl) ?_
  intro K33 hK33
  go_simp
  refine hK33.out _ _ ?_
  clear hK33 K33
  have hg2 : g2 ≠ b := by
    rcases hat2 with h | h
    · simp [Value.ownBlock] at h
    · omega
  have hc := hown2.cells (g := g2) rfl
  have n1 : w3.cell? ⟨g2, 1, none⟩ = some (.string d) := hc 1 _ rfl
  have n10 : w3.cell? ⟨g2, 10, none⟩ = some (.int .i64 k) := hc 10 _ rfl
  have HN := Lib.hid (And.intro n1 n10)
  have HL4 := Lib.hid (HL3.out.setFod (.slice (some ⟨g2, 0, none⟩) 1 cap2))
  have HG4 := Lib.hid (grown_set (grown_below hb3 (some b)) 4 (.slice (some ⟨g2, 0, none⟩) 1 cap2))
  clear hc n1 n10 hown2 hgrow2 hat2 hb3 hS3 t1 t3 t4 t5 t7 t8 t4f t5f c1 c3 c4 c5 c7 c8 f4 f5
  generalize hw4 : w3.setCell ⟨b, 4, none⟩ (.slice (some ⟨g2, 0, none⟩) 1 cap2) = w4 at HL4 HG4 ⊢
  have HM := Lib.hid hw4
  clear hw4
  have HL5 := Lib.hid (HL4.out.below (below_alloc1 w4 (.cells #[] 151)))
  obtain ⟨-, -, -, d5, -, -, -, d5f⟩ := lexCells HL5.out
  go_wp2_with fail
  go_end0
  refine ⟨rfl, g2, cap2, _, HL5.out.setTok _, ?_, ?_, hg2, grown_set (grown_trans HG4.out (grown_below (below_alloc1 _ _) _)) _ _⟩
  · rw [World.cell?_setCell_other _ _ _ _ (fun e => hg2 (by injection e with e1; exact e1.symm)), World.cell?_alloc_lt _ _ _ (by rw [← HM.out]; simpa [World.setCell] using hlt2), ← HM.out, World.cell?_setCell_other _ _ _ _ (fun e => hg2 (by injection e with e1; exact e1.symm))]
    exact HN.out.1
  · rw [World.cell?_setCell_other _ _ _ _ (fun e => hg2 (by injection e with e1; exact e1.symm)), World.cell?_alloc_lt _ _ _ (by rw [← HM.out]; simpa [World.setCell] using hlt2), ← HM.out, World.cell?_setCell_other _ _ _ _ (fun e => hg2 (by injection e with e1; exact e1.symm))]
    exact HN.out.2
/-- A token stands emitted. -/
def Tok1 (b : Nat) (w : World) (k : Int) (d : ByteArray) : Prop := ∃ g cap, w.cell? ⟨b, 4, none⟩ = some (.slice (some ⟨g, 0, none⟩) 1 cap) ∧ w.cell? ⟨g, 1, none⟩ = some (.string d) ∧ w.cell? ⟨g, 10, none⟩ = some (.int .i64 k)
def TokPost (b : Nat) (k : Int) (d : ByteArray) (w : World) (e : Ending) (w' : World) : Prop := NoRes e ∧ Tok1 b w' k d ∧ w.grownBy w' (some b)
theorem resetTok_any (b : Nat) (s : ByteArray) (K : LK) (pos : Nat) (ls : Int) (hp : pos ≤ 1000004) (g cap : Nat) (k : Int) (d : ByteArray) (hK : K.fod = .slice (some ⟨g, 0, none⟩) 1 cap) (hg : g ≠ b) (w : World) (h : LexW w b s K pos ls) (h1 : w.cell? ⟨g, 1, none⟩ = some (.string d)) (h10 : w.cell? ⟨g, 10, none⟩ = some (.int .i64 k)) :
    Calls Tryd.prog 79 #[.pointer (some ⟨b, 0, none⟩)] w (TokPost b k d w) := by
  refine (resetStart_any b s K pos ls hp w h).mono ?_
  rintro e w' ⟨he, ⟨a, c, fr, ln, hB, -⟩, hg'⟩
  have hl := World.block_lt_of_cell? w _ h1
  have c4 := hB.cell 4
  simp only [cellsX, List.getElem?_toArray, List.getElem?_cons_zero, List.getElem?_cons_succ] at c4
  have key := hg'.block g hl (fun e => hg (by injection e))
  refine ⟨he, ⟨g, cap, ?_, (World.cell?_of_block key).trans h1, (World.cell?_of_block key).trans h10⟩, hg'⟩
  rw [c4]
  exact congrArg some hK
end Go.Proofs.YtpgmnggicmbacaaDoor
