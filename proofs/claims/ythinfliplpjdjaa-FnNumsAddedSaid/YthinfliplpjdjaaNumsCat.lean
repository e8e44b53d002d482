/-
  concatArrays and numsOf: the numbers of one array behind those of another, in new memory; and the numbers of an array.
-/
import Derived.Test.YthinfliplpjdjaaNums
namespace Go.Proofs.Ythinfliplpjdjaa
open Go.RowKit Ieee

theorem below_drewN' {B : Nat} {a w : World} (h : Below B a w) (n : Nat) : Below B a (w.drewN n) := ⟨h.os, h.tape, h.output, h.size, h.block⟩

theorem own_shape {w : World} {base e size k n : Nat} {v : Value} {cs : List Value} (h : w.ownsRow base e size v k cs) (hk : k = n) : ∃ A c, v = .slice A n c := by
  subst hk
  rcases h.2 with ⟨rfl, h0⟩ | ⟨g, cap, cur, rfl, _⟩
  · exact ⟨none, 0, by rw [h0]⟩
  · exact ⟨_, cap, rfl⟩
def CatPost (xs : List Nat) (w : World) (e : Ending) (w' : World) : Prop := ∃ p, e = .returned p ∧ Arr w' w'.heap.size p xs ∧ Below w.heap.size w w'

set_option maxRecDepth 100000 in
set_option maxHeartbeats 1600000 in
theorem concat_any (p1 p2 : Value) (xs ys : List Nat) (w : World) (h1 : Arr w w.heap.size p1 xs) (h2 : Arr w w.heap.size p2 ys) (hx : xs.length ≤ 1000) (hy : ys.length ≤ 1000) :
    Calls Try.prog 51 #[p1, p2] w fun e w' => CatPost (xs ++ ys) w e w' := by
  obtain ⟨g1, A1, c1, ps, rfl, l1, b1, r1, t1⟩ := h1
  obtain ⟨g2, A2, c2, qs, rfl, l2, b2, r2, t2⟩ := h2
  generalize hn : xs.length = n at *
  generalize hm : ys.length = m at *
  have x1 : w.cell? ⟨g1, 0, none⟩ = some (.slice A1 n c1) := b1.cell 0
  have x2 : w.cell? ⟨g2, 0, none⟩ = some (.slice A2 m c2) := b2.cell 0
  obtain ⟨i0, hi, hz, hs, hb⟩ := info_parts info_thp
  have hmk : ∀ w : World, (Instr.makeSlice 123 (.int .i64 0) (.int .i64 (IntKind.i64.wrap ((n : Int) + (m : Int))))).run Try.prog w = .ok (.slice (some ⟨w.heap.size, 0, none⟩) 0 (n + m)) (w.alloc (.cells (madeCells (Value.pointer none).cells ((n + m) * i0.size)) 145)) := fun w => by
    have := run_make (P := Try.prog) w 123 145 i0 _ Try.underlying123 hi hz .i64 .i64 0 ((n : Int) + (m : Int)) (by omega) (by omega) (by rw [hb]; omega) (by omega)
    have e : ((n : Int) + (m : Int)).toNat = n + m := by omega
    have ew : IntKind.i64.wrap ((n : Int) + (m : Int)) = (n : Int) + (m : Int) := IntWalk.i64_in _ (by omega)
    rw [e] at this
    rw [ew]
    simpa using this
  have hcs : (madeCells (Value.pointer none).cells ((n + m) * i0.size)).size = (n + m) * 1 := by rw [size_madeCells, hs]
  generalize madeCells (Value.pointer none).cells ((n + m) * i0.size) = cur at *
  have HCS := Lib.hid hcs
  have T1 := Lib.hid t1
  have T2 := Lib.hid t2
  have R1 := Lib.hid r1
  have R2 := Lib.hid r2
  have HN := Lib.hid hn
  have HM := Lib.hid hm
  clear hcs t1 t2 r1 r2 hn hm b1 b2
  go_enter Try.func51, Try.ntmps51
  go_wp2_with fail
  go_region_held3 (fun w' => w'.cell? ⟨g1, 0, none⟩ = some (.slice A1 n c1) ∧ w'.cell? ⟨g2, 0, none⟩ = some (.slice A2 m c2)) (go_keep) (fail)
  have hb0 : Below w.heap.size w (w.alloc (.cells cur 145)).drew := ((Below.refl _ _).alloc (Nat.le_refl _) _).drew
  have hown0 := (World.ownsRow_made (e := 145) (size := 1) w cur (n + m) (Nat.le_refl _) (by unfold maxLen; omega) HCS.out).drew
  have HOWN := Lib.hid hown0
  have HB0 := Lib.hid hb0
  clear hown0 hb0
  go_wp2_with (first
    | (at_builtin; refine wpList_append_any _ rfl (.tmp 18) (.tmp 22) 123 rfl w.heap.size 145 i0 _ 1 8 Try.underlying123 hi hz hs hb rfl (by omega) (.slice (some ⟨w.heap.size, 0, none⟩) 0 (n + m)) 0 [] rfl HOWN.out w.heap.size A1 n c1 ps rfl (R1.out.below HB0.out) (ths_one T1.out) (by unfold maxLen; omega) (by omega) HB0.out.size ?_; intro v1 w1 hown1 hg1 hat1; have hb1 : Below w.heap.size w w1 := HB0.out.grown hg1 HB0.out.size (fun k hk => (HOWN.out.lt k hk).1); have x2' := (hb1.cell (p := ⟨g2, 0, none⟩) l2).trans x2; have HB1 := Lib.hid hb1; have HW1 := Lib.hid hown1; clear hown1 hb1 hg1 hat1)
    | (at_builtin; refine wpList_append_any _ rfl (.tmp 24) (.tmp 28) 123 rfl w.heap.size 145 i0 _ 1 8 Try.underlying123 hi hz hs hb rfl (by omega) v1 (0 + n) ([] ++ ps) rfl HW1.out w.heap.size A2 m c2 qs rfl (R2.out.below HB1.out) (ths_one T2.out) (by unfold maxLen; omega) (by omega) HB1.out.size ?_; intro v2 w2 hown2 hg2 hat2; obtain ⟨A3, c3, rfl⟩ := own_shape (n := n + m) hown2 (by omega); have hb2 : Below w.heap.size w w2 := HB1.out.grown hg2 HB1.out.size (fun k hk => (HW1.out.lt k hk).1); have HB2 := Lib.hid hb2; have HW2 := Lib.hid hown2; clear hown2 hb2 hg2 hat2))
  have hbs := HB2.out.size
  go_ret
  refine ⟨_, rfl, ⟨w2.heap.size, A3, c3, ps ++ qs, rfl, by simp, ?_, ?_, ?_⟩, HB2.out.alloc hbs _⟩
  · have := Blk.new w2 144 #[.slice A3 (n + m) c3]
    rw [List.length_append, HN.out, HM.out]
    exact this
  · have h2 := HW2.out.alloc (.cells #[.slice A3 (n + m) c3] 144)
    rw [List.length_append, HN.out, HM.out]
    have e : 0 + n + m = n + m := by omega
    rw [e, List.nil_append] at h2
    exact Reads.of_own h2
  · have t := Ths.append (T1.out.below HB2.out (Nat.le_refl _)) (T2.out.below HB2.out (Nat.le_refl _))
    have hb3 : Below w2.heap.size w2 (w2.alloc (.cells #[.slice A3 (n + m) c3] 144)) := (Below.refl _ _).alloc (Nat.le_refl _) _
    exact (t.below hb3 hbs).more (by simp; omega)

theorem run_isArray (v : Value) (x : TypeId) (w : World) : (Instr.typeAssert (.iface 97 v) x 97 false).run Try.prog w = .ok v w := by
  simp [Instr.typeAssert, run_underlying Try.underlying97]
theorem heap_new0 (w : World) (o : Obj) : (w.alloc o).heap[w.heap.size]? = some o := heap_alloc_new w o

def OfPost (xs : List Nat) (w : World) (e : Ending) (w' : World) : Prop :=
  ∃ v, e = .returned (.tuple #[v, .nilIface]) ∧ w'.ownsRow w.heap.size 50 1 v xs.length (xs.map (Value.float .f64)) ∧ Below w.heap.size w w'
set_option maxRecDepth 100000 in
set_option maxHeartbeats 1600000 in
theorem numsOf_any (p : Value) (xs : List Nat) (w : World) (h : Arr w w.heap.size p xs) (hx : xs.length ≤ 1000) :
    Calls Try.prog 50 #[.iface 97 p, .nilIface] w fun e w' => OfPost xs w e w' := by
  obtain ⟨g, A, c, ps, rfl, l1, b1, r1, t1⟩ := h
  generalize hn : xs.length = n at *
  have x1 : w.cell? ⟨g, 0, none⟩ = some (.slice A n c) := b1.cell 0
  obtain ⟨i0, hi, hz, hs, hb⟩ := info_parts info_flt
  have R1 := Lib.hid r1
  have T1 := Lib.hid t1
  have HN := Lib.hid hn
  have ha := run_isArray
  have hnm := run_isNumber
  clear r1 t1 hn b1
  go_enter Try.func50, Try.ntmps50
  go_wp2
  go_loopw [6, 18] (fun v t wr => ∃ j : Nat, j ≤ n ∧ t = .int .i64 j ∧ Below w.heap.size w wr ∧ wr.ownsRow w.heap.size 50 1 v j ((xs.take j).map (Value.float .f64))) (fun _ t _ => n - (intOf t).toNat)
  case atStart => exact ⟨0, Nat.zero_le _, rfl, Below.refl _ _, World.ownsRow_nil _ _ _ _⟩
  case round =>
    obtain ⟨j, hj, rfl, hbel, hown⟩ := hrel
    by_cases hlt : j < n
    · obtain ⟨ad, u, rfl, hbk, hpj, hc0⟩ := R1.out.at_ hlt
      have hxj : xs[j]? = some (xs[j]'(by rw [HN.out]; exact hlt)) := List.getElem?_eq_getElem _
      obtain ⟨gt, gn, rfl, lt1, lt2, bt1, bt2⟩ := T1.out.2 j u _ hpj hxj
      have hc := (hbel.cell (p := ad.add j) (by rw [block_of_add]; omega)).trans hc0
      have k2 : wr.cell? ⟨gt, 2, none⟩ = some (.iface 148 (.pointer (some ⟨gn, 0, none⟩))) := (hbel.cell (p := ⟨gt, 2, none⟩) lt1).trans (bt1.cell 2)
      have k3 : wr.cell? ⟨gn, 0, none⟩ = some (.float .f64 (xs[j]'(by rw [HN.out]; exact hlt))) := (hbel.cell (p := ⟨gn, 0, none⟩) lt2).trans (bt2.cell 0)
      obtain ⟨x, hxx⟩ : ∃ x, x = xs[j]'(by rw [HN.out]; exact hlt) := ⟨_, rfl⟩
      rw [← hxx] at k3
      have HX := Lib.hid hxx
      have HO := Lib.hid hown
      have HBL := Lib.hid hbel
      have hbs := hbel.size
      clear hc0 hpj hxj bt1 bt2 hown hbel hxx
      go_wp2_with (at_builtin; refine wpList_append_x _ rfl (.tmp 22) (.tmp 31) 30 rfl w.heap.size 50 i0 _ 1 8 Try.underlying30 hi hz hs hb rfl (by omega) u6 j _ rfl (HO.out.alloc _) (wr.heap.size + 1) (some ⟨wr.heap.size, 0, none⟩) 1 1 [.float .f64 x] rfl (Reads.ofBlock (cs := #[.float .f64 x]) (heap_new0 _ _) rfl (by omega)) (by simp [Value.oneCell']) (.inr (by omega)) (by unfold maxLen; omega) (by omega) (by simp; omega) (wr.heap.size + 1) (by simp) ?_; intro g2 cap2 w2 hown2 hgrow2 hat2 hlt2)
      have hb2 : Below w.heap.size w w2 := (HBL.out.alloc hbs _).grown hgrow2 (by simp; omega) (fun k hk => (HO.out.lt k hk).1)
      clear hgrow2 hat2
      go_roundw
      case rel => exact ⟨j + 1, by omega, by go_num, hb2, by
        rw [List.take_succ_eq_append_getElem (by rw [HN.out]; exact hlt), ← HX.out, List.map_append]; exact hown2⟩
      case measure => simp [intOf]; omega
    · obtain rfl : j = n := by omega
      have htk : xs.take j = xs := List.take_of_length_le (by rw [HN.out]; omega)
      rw [htk] at hown
      have HO := Lib.hid hown
      have HBL := Lib.hid hbel
      clear hown hbel htk
      go_wp2_with fail
      go_ret2
      exact ⟨_, rfl, by rw [HN.out]; exact HO.out, HBL.out⟩
end Go.Proofs.Ythinfliplpjdjaa
