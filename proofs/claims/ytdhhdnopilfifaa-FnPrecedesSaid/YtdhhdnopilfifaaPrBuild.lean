/-
  build; Precedence.
-/
import Derived.Test.YtdhhdnopilfifaaPrNode
import Derived.Laws.MakeOwn
namespace Go.Proofs.Ytdhhdnopilfifaa
open Go.RowKit

theorem info_node : (Try.prog.info? 32).map (fun i => (i.zero, i.size, i.bytes)) = some (some .nilIface, 1, 16) := by kernel_rfl
theorem Cx.Go.toBelow {X : Cx} {a b : World} (h : X.Go a b) {B : Nat} (hB : B ≤ X.pl) (hs : B ≤ a.heap.size) : Below B a b :=
  ⟨h.1.os, h.1.tape, h.1.output, h.1.size, fun k hk => h.1.block k (by omega) (fun e => by injection e with e; omega)⟩
/-- What build answers for a right tree. -/
def BuPost (e0 : ND) (w : World) (r : Ending) (w' : World) : Prop :=
  (∃ g, r = .returned (.tuple #[.iface (tyOf e0.kind) (.pointer (some ⟨g, 0, none⟩)), .bool true]) ∧ (e0.kind = 23 → w'.cell? ⟨g, 12, none⟩ = some (.int .i64 (bopI e0.op)))) ∧ Below w.heap.size w w'
set_option maxRecDepth 100000 in
set_option maxHeartbeats 3200000 in
theorem build_any (b o n c : Nat) (es : List ND) (kl : Nat → List Nat) (B : Nat) (w : World) (h : Nodes w B (some ⟨b, o, none⟩) n es) (hB : B ≤ w.heap.size) (hn : n ≤ 400) (hrt : RightT es kl) (e0 : ND) (he0 : es[0]? = some e0) (hs0 : e0.size = n) (h1 : 1 ≤ e0.kind) (h2 : e0.kind ≤ 30) :
    Calls Try.prog 12 #[.slice (some ⟨b, o, none⟩) n c, .bool false] w (BuPost e0 w) := by
  have hlen := h.1
  have hp : 0 < n := by have := (List.getElem?_eq_some_iff.1 he0).1; omega
  have KS := Lib.hid (ishaped_any (some ⟨b, o, none⟩) n c es kl hrt.1 B w h hB (by omega) hp e0 he0 hs0)
  obtain ⟨i0, hi, hz, hs, hb⟩ := info_parts info_node
  have hmk : ∀ w : World, (Instr.makeSlice 41 (.int .i64 (n : Int)) (.int .i64 (n : Int))).run Try.prog w = .ok (.slice (some ⟨w.heap.size, 0, none⟩) n n) (w.alloc (.cells (madeCells Value.nilIface.cells (n * i0.size)) 32)) := fun w => by
    have := run_make (P := Try.prog) w 41 32 i0 _ Try.underlying41 hi hz .i64 .i64 n n (by omega) (Int.le_refl _) (by rw [hb]; omega) (by omega)
    simpa using this
  obtain ⟨cur, hcur⟩ : ∃ cur : Array Value, madeCells Value.nilIface.cells (n * i0.size) = cur := ⟨_, rfl⟩
  have hcl : cur.size = n := by
    have := congrArg Array.size hcur
    simp [madeCells, hs] at this
    omega
  simp only [hcur] at hmk
  have HCL := Lib.hid hcl
  have HH := Lib.hid h
  have HRT := Lib.hid hrt
  have HE0 := Lib.hid he0
  have HL := Lib.hid hlen
  have H12 := Lib.hid (And.intro h1 h2)
  clear h hrt he0 hs0 hlen hcl hcur hi hz hs hb h1 h2
  go_enter Try.func12, Try.ntmps12
  go_wp2_with fail
  refine KS.out.mono ?_
  rintro e1 w1 ⟨rfl, hw1⟩
  have HB1 := Lib.hid hw1
  have hz1 : w.heap.size ≤ w1.heap.size := hw1.size
  clear hw1
  obtain ⟨X, hX⟩ : ∃ X : Cx, X = ⟨b, o, n, c, es, kl, B, w1.heap.size + 1, w1.heap.size, n⟩ := ⟨_, rfl⟩
  have hok : X.OK := by rw [hX]; exact ⟨hn, HRT.out, HL.out⟩
  have hinv : X.Inv ((w1.alloc (.cells cur 32)).alloc (.cells #[.slice (some ⟨b, o, none⟩) n c, .bool false, .bool false, .slice (some ⟨w1.heap.size, 0, none⟩) n n] 43)) := by
    rw [hX]
    exact ⟨HH.out.below (((HB1.out.mono (Nat.le_refl _)).alloc hz1 _).alloc (by simp; omega) _) hB, by simp; omega, by show B ≤ w1.heap.size; omega, Blk.newAt _ _ (by simp) _ _, cur, (Blk.new _ _ _).alloc _, HCL.out⟩
  have hN : NodeC X 0 := nodes_all X hok X.n 0 (by omega) 0 (Nat.le_refl _) (by rw [hX]; exact ⟨e0, HE0.out, H12.out⟩)
  obtain ⟨x, hx, K⟩ := hN
  obtain rfl : x = e0 := by
    rw [hX] at hx
    have := hx.symm.trans HE0.out
    cases this
    rfl
  have KN := Lib.hid (K _ hinv)
  have hbB : X.bB = w1.heap.size + 1 := by rw [hX]
  have hpl : X.pl = w1.heap.size := by rw [hX]
  have HPL := Lib.hid hpl
  rw [hbB] at KN
  have HX2 := Lib.hid (show X.b = b ∧ X.o = o from by rw [hX]; exact ⟨rfl, rfl⟩)
  have HI := Lib.hid hinv
  have HBB := Lib.hid hbB
  clear hx K hinv hbB hpl hX hok
  go_wp2_with fail
  refine KN.out.mono ?_
  rintro e2 w2 ⟨⟨g, rfl, h23⟩, hgo⟩
  obtain ⟨ty, hty⟩ : ∃ ty, tyOf x.kind = ty := ⟨_, rfl⟩
  have HTY := Lib.hid hty
  rw [hty]
  have H23 := Lib.hid h23
  have HGO := Lib.hid hgo
  have c2 := hgo.2.2.2.2.1.cell 2
  rw [HBB.out] at c2
  simp only [Cx.cells, List.getElem?_toArray, List.getElem?_cons_zero, List.getElem?_cons_succ] at c2
  clear h23 hgo hty
  go_upto_region 5 with fail
  go_region_law fail
  all_goals
    go_wp2_with fail
    go_ret2
    have hq := (HGO.out.toBelow (B := w.heap.size) (by rw [HPL.out]; exact hz1) (by simp; omega)).drew
    exact ⟨⟨g, by rw [HTY.out]; rfl, fun h => (H23.out h).2⟩, Below.trans (((HB1.out.mono (Nat.le_refl _)).alloc hz1 _).alloc (by simp; omega) _) hq⟩
end Go.Proofs.Ytdhhdnopilfifaa
