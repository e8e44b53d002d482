/-
  newCall, newLocal: one frame more.
-/
import Derived.Test.YtkbjcpeogecbgaaStkBound
import Derived.Deep.RegionLaw
namespace Go.Proofs.Ytkbjcpeogecbgaa
open Go.RowKit Go.Maps

set_option maxRecDepth 100000 in
theorem mkEnv_any (b : Nat) (l3 : Option Addr) (d : Int) (w : World) : Calls Try.prog 16 #[.map (some b), .agg #[.pointer l3, .int .i64 d]] w fun e w' => e = .returned (.agg #[.map (some b), .pointer l3, .int .i64 d]) ∧ Below w.heap.size w w' := by
  go_enter Try.func16, Try.ntmps16
  go_wp2
  refine bodyPost_ret (v := .agg #[.map (some b), .pointer l3, .int .i64 d]) ?_ rfl ⟨rfl, ?_⟩
  · simp [results, Try.results16, go_sem]
  · exact ((Below.refl _ _).alloc (Nat.le_refl _) _).alloc (by simp) _
theorem unbound_any (w : World) : Calls Try.prog 18 #[] w fun e w' => e = .returned (.agg #[.pointer none, .int .i64 123456789]) ∧ Below w.heap.size w w' := by
  go_enter Try.func18, Try.ntmps18
  go_wp2
  refine bodyPost_ret (v := .agg #[.pointer none, .int .i64 123456789]) ?_ rfl ⟨rfl, ?_⟩
  · simp [results, Try.results18, go_sem]
  · exact (Below.refl _ _).alloc (Nat.le_refl _) _
theorem info_cf : (Try.prog.info? 88).map (fun i => (i.zero, i.size, i.bytes)) = some (some (.pointer none), 1, 8) := by kernel_rfl
theorem heap_new1 (w : World) (a o : Obj) : ((w.alloc a).alloc o).heap[w.heap.size + 1]? = some o := by
  have := heap_alloc_new (w.alloc a) o
  simpa using this
theorem heap_new2 (w : World) (a b o : Obj) : (((w.alloc a).alloc b).alloc o).heap[w.heap.size + 2]? = some o := by
  have := heap_alloc_new ((w.alloc a).alloc b) o
  simpa using this
theorem Reads.ofBlock {w : World} {B size n g : Nat} {cs : Array Value} {t : TypeId} {fr : Nat × Nat} (h : w.heap[g]? = some (.cells cs t fr)) (hs : cs.size = n * size) (hg : g < B) : Reads w B size (some ⟨g, 0, none⟩) n cs.toList :=
  ⟨by simpa using hs, fun _ => ⟨_, rfl, hg, World.news_of_block h⟩⟩

/-- A new frame behind the others. -/
theorem si_push {w wr w2 : World} {base bS b gF : Nat} {F : List (Bool × Bool)} {c lim d : Int} {v v2 : Value} {ps : List Value} {t1 t2 l1 l2 l3 : Option Addr} {f : Bool × Bool} (hB : Blk wr bS 47 #[.pointer t1, .pointer t2, v, .int .i64 c, .int .i64 lim]) (hO : wr.ownsRow base 88 1 v F.length ps) (hF : Frs wr wr.heap.size ps F) (hM : MapN wr wr.heap.size b)
    (hfr : Blk wr gF 90 #[.pointer l1, .pointer l2, .map (some b), .pointer l3, .int .i64 d, .bool f.1, .bool f.2])
    (hn : w2.ownsRow base 88 1 v2 (F.length + 1) (ps ++ [.pointer (some ⟨gF, 0, none⟩)])) (hg : wr.grownBy w2 v.ownBlock) (hw : Below base w wr) (hk : KeptT w wr) (hb : base ≤ bS) (hbw : base ≤ wr.heap.size) :
    MPost base bS (F ++ [f]) c t1 t2 w (.returned (.tuple #[])) (w2.setCell ⟨bS, 2, none⟩ v2) := by
  have hk2 : KeptT wr w2 := (KeptT.refl wr).grown hg hO
  have hB2 : Blk w2 bS 47 #[.pointer t1, .pointer t2, v, .int .i64 c, .int .i64 lim] := hB.grown hg (fun e => own_blk_ne hO hB (by decide) e.symm)
  have hbel : Below base w w2 := hw.grown hg hbw (fun j hj => (hO.lt j hj).1)
  have hs := hg.size
  have hfrs : Frs w2 w2.heap.size (ps ++ [.pointer (some ⟨gF, 0, none⟩)]) (F ++ [f]) := by
    refine Frs.snoc ((hF.keptT hk2).more hs) ?_
    refine ⟨gF, b, l1, l2, l3, d, rfl, ?_, (hM.keptT hk2).more hs, hfr.keptT hk2 (by decide) (by decide)⟩
    have := hfr.lt
    omega
  have hl : (F ++ [f]).length = F.length + 1 := by simp
  refine ⟨rfl, ⟨v2, _, lim, by simpa using hB2.set_ 2 v2, by rw [hl]; exact own_set hn hB2 (by decide) 2 v2, by rw [size_set]; exact frs_set hfrs hB2 2 v2⟩, hbel.setCell (p := ⟨bS, 2, none⟩) hb v2, (hk.trans hk2).set hB2 2 v2⟩

set_option maxRecDepth 100000 in
set_option maxHeartbeats 3200000 in
theorem newCall_any (base bS b : Nat) (F : List (Bool × Bool)) (c d : Int) (a1 : Addr) (t2 l3 : Option Addr) (tr : Bool) (w : World) (h : SI w base bS F c (some a1) t2) (hb : base ≤ bS) (hc : -1000 ≤ c ∧ c ≤ 1000) (hl : F.length ≤ 1000) (hm : MapN w w.heap.size b) :
    Calls Try.prog 15 #[.pointer (some ⟨bS, 0, none⟩), .agg #[.map (some b), .pointer l3, .int .i64 d], .bool tr] w (MPost base bS (F ++ [(true, tr)]) (c + 1) none none w) := by
  obtain ⟨i0, hi, hz, hsz, hbb⟩ := info_parts info_cf
  have hb0 : Below w.heap.size w (w.alloc (.cells #[.map (some b), .pointer l3, .int .i64 d] 63)) := (Below.refl _ _).alloc (Nat.le_refl _) _
  have hbw : base ≤ w.heap.size := by obtain ⟨v, ps, lim, h1, -⟩ := h; have := h1.lt; omega
  have h1 := h.same hb0
  obtain ⟨v, ps, lim, hB, hO, hF⟩ := h1
  have hE : Blk (w.alloc (.cells #[.map (some b), .pointer l3, .int .i64 d] 63)) w.heap.size 63 #[.map (some b), .pointer l3, .int .i64 d] := Blk.new w _ _
  have HM := Lib.hid ((hm.below hb0 (Nat.le_refl _)).more hb0.size)
  have HB0 := Lib.hid ((Below.refl base w).trans (hb0.mono hbw))
  have HK0 := Lib.hid (KeptT.of_below hb0)
  have hs0 : (w.alloc (.cells #[.map (some b), .pointer l3, .int .i64 d] 63)).heap.size = w.heap.size + 1 := by simp
  have HB := Lib.hid hB
  have HO := Lib.hid hO
  have HF := Lib.hid hF
  have HE := Lib.hid hE
  have q0 := hB.cell 0
  have q1 := hB.cell 1
  have q2 := hB.cell 2
  have r0 := hE.cell 0
  have r1 := hE.cell 1
  have r2 := hE.cell 2
  have g2 := hB.frozen 2
  simp only [List.getElem?_toArray, List.getElem?_cons_zero, List.getElem?_cons_succ] at q0 q1 q2 r0 r1 r2
  have e1 := ne_loc a1
  clear h hm hb0 hB hO hF hE
  go_enter Try.func15, Try.ntmps15
  go_wp2_with fail
  generalize w.alloc (.cells #[.map (some b), .pointer l3, .int .i64 d] 63) = W1 at *
  have HS0 := Lib.hid hs0
  have hsb := HB.out.lt
  have hbw1 : base ≤ W1.heap.size := by omega
  have q2a := ((HB.out.alloc (.cells #[.pointer (some a1), .pointer t2, .map (some b), .pointer l3, .int .i64 d, .bool true, .bool tr] 90)).drew).cell 2
  have q2b := (((HB.out.alloc (.cells #[.pointer (some a1), .pointer t2, .map (some b), .pointer l3, .int .i64 d, .bool true, .bool tr] 90)).alloc (.cells #[.pointer (some ⟨W1.heap.size, 0, none⟩)] 88)).drew).cell 2
  simp only [List.getElem?_toArray, List.getElem?_cons_zero, List.getElem?_cons_succ] at q2a q2b
  clear hs0
  go_region_law ((refine step_append_x _ (by rfl) _ _ 45 (by rfl) base 88 i0 _ 1 8 Try.underlying45 hi hz hsz hbb rfl (by omega) v F.length ps (by rfl) (((HO.out.alloc _).alloc _).drew) (W1.heap.size + 2) (some ⟨W1.heap.size + 1, 0, none⟩) 1 1 [.pointer (some ⟨W1.heap.size, 0, none⟩)] (by rfl) (Reads.ofBlock (cs := #[.pointer (some ⟨W1.heap.size, 0, none⟩)]) (heap_new1 _ _ _) rfl (by omega)) (by simp [Value.oneCell']) (.inr (by omega)) (by unfold maxLen; omega) (by omega) (by simp; omega) (W1.heap.size + 2) (by simp) ?_; intro g3 cap3 w2 hown2 hgrow2 hat2 hlt2; have hB2 := (((HB.out.alloc (.cells #[.pointer (some a1), .pointer t2, .map (some b), .pointer l3, .int .i64 d, .bool true, .bool tr] 90)).alloc (.cells #[.pointer (some ⟨W1.heap.size, 0, none⟩)] 88)).drew).grown hgrow2 (fun e => own_blk_ne HO.out HB.out (by decide) e.symm); have q4 := hB2.cell 2; have q4f := hB2.frozen 2))
  all_goals
    have hbx : Below W1.heap.size W1 (((W1.alloc (.cells #[.pointer (some a1), .pointer t2, .map (some b), .pointer l3, .int .i64 d, .bool true, .bool tr] 90)).alloc (.cells #[.pointer (some ⟨W1.heap.size, 0, none⟩)] 88)).drew) := (((Below.refl _ _).alloc (Nat.le_refl _) _).alloc (by simp) _).drew
    have R := si_push (f := (true, tr)) (w := w) ((HB.out.alloc (.cells #[.pointer (some a1), .pointer t2, .map (some b), .pointer l3, .int .i64 d, .bool true, .bool tr] 90)).alloc (.cells #[.pointer (some ⟨W1.heap.size, 0, none⟩)] 88)).drew ((HO.out.alloc (.cells #[.pointer (some a1), .pointer t2, .map (some b), .pointer l3, .int .i64 d, .bool true, .bool tr] 90)).alloc (.cells #[.pointer (some ⟨W1.heap.size, 0, none⟩)] 88)).drew ((HF.out.below hbx (Nat.le_refl _)).more hbx.size) ((HM.out.below hbx (Nat.le_refl _)).more hbx.size) (((Blk.new W1 90 #[.pointer (some a1), .pointer t2, .map (some b), .pointer l3, .int .i64 d, .bool true, .bool tr]).alloc (.cells #[.pointer (some ⟨W1.heap.size, 0, none⟩)] 88)).drew) hown2 hgrow2 (HB0.out.trans (hbx.mono hbw1)) (HK0.out.trans (KeptT.of_below hbx)) hb (by have := hbx.size; omega)
    obtain ⟨-, R1, R2, R3⟩ := R
    have HR1 := Lib.hid R1
    have HR2 := Lib.hid R2
    have HR3 := Lib.hid R3
    clear R1 R2 R3 hgrow2 hown2 hat2 hB2 q4 q4f hbx
    go_wp2_with fail
    refine (clear_any base bS _ c _ _ _ HR1.out hb).mono ?_
    rintro e w4 ⟨rfl, hm4, hb4, hk4⟩
    have HB4 := Lib.hid (HR2.out.trans hb4)
    have HK4 := Lib.hid (HR3.out.trans hk4)
    obtain ⟨v4, ps4, lim4, hB4, hO4, hF4⟩ := hm4
    have c3 := hB4.cell 3
    have f3 := hB4.frozen 3
    simp only [List.getElem?_toArray, List.getElem?_cons_zero, List.getElem?_cons_succ] at c3
    have HBB := Lib.hid hB4
    have HOO := Lib.hid hO4
    have HFF := Lib.hid hF4
    clear hB4 hO4 hF4 hb4 hk4
    go_wp2_with fail
    go_end0
    obtain ⟨a1', a2', a3', a4', a5'⟩ := si_set HBB.out HOO.out HFF.out hb 3 (.int .i64 (c + 1))
    exact MPost.trans HB4.out HK4.out ⟨rfl, ⟨v4, ps4, lim4, by simpa using a1', a2', a3'⟩, a4', a5'⟩
end Go.Proofs.Ytkbjcpeogecbgaa
