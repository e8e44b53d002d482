/-
  The builder: hides, field. (Printed by wip/gen_field.py.)
-/
import Derived.Test.YtdhhdnopilfifaaPrBinds
namespace Go.Proofs.Ytdhhdnopilfifaa
open Go.RowKit

theorem Blk.newAt (w : World) (k : Nat) (hk : w.heap.size = k) (t : TypeId) (cs : Array Value) : Blk (w.alloc (.cells cs t)) k t cs := hk ▸ Blk.new w t cs
theorem hides_any (op : Int) (w : World) (h : 0 ≤ op ∧ op ≤ 2) : Calls Try.prog 58 #[.int .i64 op] w (fun e w' => (∃ u : Int, e = .returned (.tuple #[.int .i64 u, .bool true])) ∧ w = w') := by
  have hc : op = 0 ∨ op = 1 ∨ op = 2 := by omega
  clear h
  rcases hc with rfl | rfl | rfl
  all_goals
    go_enter Try.func58, Try.ntmps58
    go_wp2_with fail
    go_ret2
    exact ⟨⟨_, rfl⟩, rfl⟩
def fdCells (m i : Option Addr) (e1 e2 e3 : Value) (kd hd : Int) (s : Bool) : Array Value := #[.pointer m, .pointer i, .slice none 0 0, .slice none 0 0, .slice none 0 0, .slice none 0 0, e1, e2, e3, .pointer none, .string ⟨#[]⟩, .int .i64 0, .int .i64 0, .int .i64 0, .int .i64 0, .int .i64 kd, .int .i64 hd, .bool s]
/-- A cell that is one value. -/
def One (v : Value) : Prop := v = .nilIface ∨ ∃ t g, v = .iface t (.pointer (some ⟨g, 0, none⟩))
def FdPost (X : Cx) (w : World) (e : Ending) (w' : World) : Prop := (∃ m i e1 e2 e3 kd hd s, e = .returned (.agg (fdCells m i e1 e2 e3 kd hd s)) ∧ One e1 ∧ One e2 ∧ One e3) ∧ X.Go w w'
theorem Blk.setRow {w : World} {g : Nat} {t : TypeId} {cs cs' : Array Value} (h : Blk w g t cs) : Blk (w.setRow g cs') g t cs' := setRow_heap w g cs cs' t (0, 0) h
theorem Blk.farRow {w : World} {g g' : Nat} {t : TypeId} {cs : Array Value} (h : Blk w g t cs) (hne : g ≠ g') (cs' : Array Value) : Blk (w.setRow g' cs') g t cs := (setRow_other w g' g cs' hne).trans h
theorem below_setRow {B g : Nat} {w w' : World} (h : Below B w w') (hg : B ≤ g) (cs : Array Value) : Below B w (w'.setRow g cs) := by
  refine h.trans ?_
  exact ⟨rfl, rfl, rfl, by show _ ≤ (w'.heap.modify g _).size; simp, fun k hk => setRow_other w' g k cs (by omega)⟩
theorem Cx.Go.setRow {X : Cx} {a b : World} (h : X.Go a b) (hi : X.Inv a) {g : Nat} (hg : a.heap.size ≤ g) (cs : Array Value) : X.Go a (b.setRow g cs) := h.low hi (below_setRow (Below.refl a.heap.size b) hg cs)
theorem info_fd : (Try.prog.info? 211).map (fun i => (i.zero, i.size, i.bytes)) = some (some (.agg (fdCells none none .nilIface .nilIface .nilIface 0 0 false)), 18, 240) := by kernel_rfl
theorem size_fd : (Try.prog.info? 211).map (·.size) = some 18 := by kernel_rfl
theorem fd_one (m i : Option Addr) (e1 e2 e3 : Value) (kd hd : Int) (s : Bool) (h1 : One e1) (h2 : One e2) (h3 : One e3) : (fdCells m i e1 e2 e3 kd hd s).all (·.oneCell') = true := by
  rcases h1 with rfl | ⟨t1, g1, rfl⟩ <;> rcases h2 with rfl | ⟨t2, g2, rfl⟩ <;> rcases h3 with rfl | ⟨t3, g3, rfl⟩ <;> simp [fdCells, Value.oneCell']
set_option maxRecDepth 100000 in
set_option maxHeartbeats 6400000 in
theorem fieldIdB (X : Cx) (e : ND) (w : World) (h : X.Inv w) (m : Nat) (hN : NodeA X m) (A2 : Option Addr) (c2 : Nat) (a : Nat) (hk : KidsOK w X.n A2 c2 ([a]))
    (ha : Ex X.es a) (hm : ∀ k ∈ [a], m ≤ k) (hop : 0 ≤ e.op ∧ e.op ≤ 2) (hc : bits BinOp.andNot IntKind.i64 e.flag 12 = 0) (q8 : (bits BinOp.and IntKind.i64 e.flag 8 == 0) = true) :
    Calls Try.prog 66 #[.pointer (some ⟨X.bB, 0, none⟩), .agg #[.int .i64 e.kind, .int .i64 e.op, .string e.text, .int .i64 e.flag, .int .i64 e.size], .slice A2 1 c2] w (FdPost X w) := by
  have q8n : (bits BinOp.and IntKind.i64 e.flag 8 != 0) = false := by rw [bne, q8]; rfl
  have KH := Lib.hid (fun w' => hides_any e.op w' hop)
  have H := Lib.hid h
  have HK := Lib.hid hk
  have HN := Lib.hid hN
  have HM := Lib.hid hm
  have HX0 := Lib.hid (h.go (Below.refl _ _))
  obtain ⟨g, off, rfl, hgl, hc0, -⟩ := hk.cell (j := 0) (k := a) rfl
  simp only [Nat.add_zero] at hc0
  obtain ⟨xa, -, KA⟩ := hN a (hm a (by simp)) ha
  have KKA := Lib.hid KA
  clear KA ha
  clear h hk hN hm hop
  go_enter Try.func66, Try.ntmps66
  go_wp2_with fail
  refine (KH.out _).mono ?_
  rintro e1 w1 ⟨⟨hd, rfl⟩, rfl⟩
  clear KH
  have hP00 := Lib.hid (show Blk (((w.alloc (.cells #[.int .i64 e.kind, .int .i64 e.op, .string e.text, .int .i64 e.flag, .int .i64 e.size] 26)).alloc (.cells #[.pointer none, .pointer none, .slice none 0 0, .slice none 0 0, .slice none 0 0, .slice none 0 0, .nilIface, .nilIface, .nilIface, .pointer none, .string ⟨#[]⟩, .int .i64 0, .int .i64 0, .int .i64 0, .int .i64 0, .int .i64 0, .int .i64 0, .bool false] 211)).alloc (.cells #[.pointer none, .pointer none, .slice none 0 0, .slice none 0 0, .slice none 0 0, .slice none 0 0, .nilIface, .nilIface, .nilIface, .pointer none, .string ⟨#[]⟩, .int .i64 0, .int .i64 0, .int .i64 0, .int .i64 0, .int .i64 0, .int .i64 0, .bool false] 211)) (w.heap.size + 1 + 1) 211 #[.pointer none, .pointer none, .slice none 0 0, .slice none 0 0, .slice none 0 0, .slice none 0 0, .nilIface, .nilIface, .nilIface, .pointer none, .string ⟨#[]⟩, .int .i64 0, .int .i64 0, .int .i64 0, .int .i64 0, .int .i64 0, .int .i64 0, .bool false] from Blk.newAt _ _ (by simp) _ _)
  have HO0 := Lib.hid (fd_one none none .nilIface .nilIface .nilIface 0 hd (bits BinOp.and IntKind.i64 e.flag 4 != 0) (.inl rfl) (.inl rfl) (.inl rfl))
  go_upto_region 3 with (refine wpList_store_row rfl 211 (.tmp 9) (.tmp 22) rfl (w.heap.size + 1 + 1) (fdCells none none .nilIface .nilIface .nilIface 0 hd (bits BinOp.and IntKind.i64 e.flag 4 != 0)) rfl rfl 211 _ hP00.out size_fd rfl HO0.out ?_)
  have hG0 := (((HX0.out.alloc (.cells #[.int .i64 e.kind, .int .i64 e.op, .string e.text, .int .i64 e.flag, .int .i64 e.size] 26)).alloc (.cells #[.pointer none, .pointer none, .slice none 0 0, .slice none 0 0, .slice none 0 0, .slice none 0 0, .nilIface, .nilIface, .nilIface, .pointer none, .string ⟨#[]⟩, .int .i64 0, .int .i64 0, .int .i64 0, .int .i64 0, .int .i64 0, .int .i64 0, .bool false] 211)).alloc (.cells #[.pointer none, .pointer none, .slice none 0 0, .slice none 0 0, .slice none 0 0, .slice none 0 0, .nilIface, .nilIface, .nilIface, .pointer none, .string ⟨#[]⟩, .int .i64 0, .int .i64 0, .int .i64 0, .int .i64 0, .int .i64 0, .int .i64 0, .bool false] 211)).setRow H.out (g := w.heap.size + 1 + 1) (by omega) (fdCells none none .nilIface .nilIface .nilIface 0 hd (bits BinOp.and IntKind.i64 e.flag 4 != 0))
  have hb0 : Blk ((((w.alloc (.cells #[.int .i64 e.kind, .int .i64 e.op, .string e.text, .int .i64 e.flag, .int .i64 e.size] 26)).alloc (.cells #[.pointer none, .pointer none, .slice none 0 0, .slice none 0 0, .slice none 0 0, .slice none 0 0, .nilIface, .nilIface, .nilIface, .pointer none, .string ⟨#[]⟩, .int .i64 0, .int .i64 0, .int .i64 0, .int .i64 0, .int .i64 0, .int .i64 0, .bool false] 211)).alloc (.cells #[.pointer none, .pointer none, .slice none 0 0, .slice none 0 0, .slice none 0 0, .slice none 0 0, .nilIface, .nilIface, .nilIface, .pointer none, .string ⟨#[]⟩, .int .i64 0, .int .i64 0, .int .i64 0, .int .i64 0, .int .i64 0, .int .i64 0, .bool false] 211)).setRow (w.heap.size + 1 + 1) (fdCells none none .nilIface .nilIface .nilIface 0 hd (bits BinOp.and IntKind.i64 e.flag 4 != 0))) w.heap.size 26 #[.int .i64 e.kind, .int .i64 e.op, .string e.text, .int .i64 e.flag, .int .i64 e.size] := (((Blk.new _ _ _).alloc _).alloc _).farRow (by omega) _
  have hQ0 : Blk ((((w.alloc (.cells #[.int .i64 e.kind, .int .i64 e.op, .string e.text, .int .i64 e.flag, .int .i64 e.size] 26)).alloc (.cells #[.pointer none, .pointer none, .slice none 0 0, .slice none 0 0, .slice none 0 0, .slice none 0 0, .nilIface, .nilIface, .nilIface, .pointer none, .string ⟨#[]⟩, .int .i64 0, .int .i64 0, .int .i64 0, .int .i64 0, .int .i64 0, .int .i64 0, .bool false] 211)).alloc (.cells #[.pointer none, .pointer none, .slice none 0 0, .slice none 0 0, .slice none 0 0, .slice none 0 0, .nilIface, .nilIface, .nilIface, .pointer none, .string ⟨#[]⟩, .int .i64 0, .int .i64 0, .int .i64 0, .int .i64 0, .int .i64 0, .int .i64 0, .bool false] 211)).setRow (w.heap.size + 1 + 1) (fdCells none none .nilIface .nilIface .nilIface 0 hd (bits BinOp.and IntKind.i64 e.flag 4 != 0))) (w.heap.size + 1) 211 #[.pointer none, .pointer none, .slice none 0 0, .slice none 0 0, .slice none 0 0, .slice none 0 0, .nilIface, .nilIface, .nilIface, .pointer none, .string ⟨#[]⟩, .int .i64 0, .int .i64 0, .int .i64 0, .int .i64 0, .int .i64 0, .int .i64 0, .bool false] := ((Blk.newAt _ _ (by simp) _ _).alloc _).farRow (by omega) _
  have hP0 : Blk ((((w.alloc (.cells #[.int .i64 e.kind, .int .i64 e.op, .string e.text, .int .i64 e.flag, .int .i64 e.size] 26)).alloc (.cells #[.pointer none, .pointer none, .slice none 0 0, .slice none 0 0, .slice none 0 0, .slice none 0 0, .nilIface, .nilIface, .nilIface, .pointer none, .string ⟨#[]⟩, .int .i64 0, .int .i64 0, .int .i64 0, .int .i64 0, .int .i64 0, .int .i64 0, .bool false] 211)).alloc (.cells #[.pointer none, .pointer none, .slice none 0 0, .slice none 0 0, .slice none 0 0, .slice none 0 0, .nilIface, .nilIface, .nilIface, .pointer none, .string ⟨#[]⟩, .int .i64 0, .int .i64 0, .int .i64 0, .int .i64 0, .int .i64 0, .int .i64 0, .bool false] 211)).setRow (w.heap.size + 1 + 1) (fdCells none none .nilIface .nilIface .nilIface 0 hd (bits BinOp.and IntKind.i64 e.flag 4 != 0))) (w.heap.size + 1 + 1) 211 (fdCells none none .nilIface .nilIface .nilIface 0 hd (bits BinOp.and IntKind.i64 e.flag 4 != 0)) := hP00.out.setRow
  obtain ⟨W0, hW0⟩ : ∃ W0, ((((w.alloc (.cells #[.int .i64 e.kind, .int .i64 e.op, .string e.text, .int .i64 e.flag, .int .i64 e.size] 26)).alloc (.cells #[.pointer none, .pointer none, .slice none 0 0, .slice none 0 0, .slice none 0 0, .slice none 0 0, .nilIface, .nilIface, .nilIface, .pointer none, .string ⟨#[]⟩, .int .i64 0, .int .i64 0, .int .i64 0, .int .i64 0, .int .i64 0, .int .i64 0, .bool false] 211)).alloc (.cells #[.pointer none, .pointer none, .slice none 0 0, .slice none 0 0, .slice none 0 0, .slice none 0 0, .nilIface, .nilIface, .nilIface, .pointer none, .string ⟨#[]⟩, .int .i64 0, .int .i64 0, .int .i64 0, .int .i64 0, .int .i64 0, .int .i64 0, .bool false] 211)).setRow (w.heap.size + 1 + 1) (fdCells none none .nilIface .nilIface .nilIface 0 hd (bits BinOp.and IntKind.i64 e.flag 4 != 0))) = W0 := ⟨_, rfl⟩
  rw [hW0] at hG0 hb0 hQ0 hP0
  rw [hW0]
  clear hW0
  have n2 := hb0.cell 2
  have n3 := hb0.cell 3
  simp only [List.getElem?_toArray, List.getElem?_cons_zero, List.getElem?_cons_succ] at n2 n3
  have hG1 := hG0.alloc (.cells #[.string e.text] 112)
  have hQ1 := hQ0.alloc (.cells #[.string e.text] 112)
  have hP1 := hP0.alloc (.cells #[.string e.text] 112)
  have hB1 := hb0.alloc (.cells #[.string e.text] 112)
  have p15 := hP1.cell 15
  have pS := hP1.cell 1
  have f15 := hP1.frozen 15
  have fS := hP1.frozen 1
  have n1 := hB1.cell 3
  simp only [fdCells, List.getElem?_toArray, List.getElem?_cons_zero, List.getElem?_cons_succ] at p15 pS n1
  have hG := (hG1.set H.out (g := w.heap.size + 1 + 1) (i := 15) (by omega) (.int .i64 1)).set H.out (g := w.heap.size + 1 + 1) (i := 1) (by omega) (.pointer (some ⟨W0.heap.size, 0, none⟩))
  have hQ := (hQ1.far (p := ⟨w.heap.size + 1 + 1, 15, none⟩) (by show w.heap.size + 1 ≠ w.heap.size + 1 + 1; omega) (.int .i64 1)).far (p := ⟨w.heap.size + 1 + 1, 1, none⟩) (by show w.heap.size + 1 ≠ w.heap.size + 1 + 1; omega) (.pointer (some ⟨W0.heap.size, 0, none⟩))
  have hP : Blk (((W0.alloc (.cells #[.string e.text] 112)).setCell ⟨w.heap.size + 1 + 1, 15, none⟩ (.int .i64 1)).setCell ⟨w.heap.size + 1 + 1, 1, none⟩ (.pointer (some ⟨W0.heap.size, 0, none⟩))) (w.heap.size + 1 + 1) 211 (fdCells none (some ⟨W0.heap.size, 0, none⟩) (.nilIface) .nilIface .nilIface 1 hd (bits BinOp.and IntKind.i64 e.flag 4 != 0)) := by simpa [fdCells] using (hP1.set_ 15 (.int .i64 1)).set_ 1 (.pointer (some ⟨W0.heap.size, 0, none⟩))
  have hNb := (hB1.far (p := ⟨w.heap.size + 1 + 1, 15, none⟩) (by show w.heap.size ≠ w.heap.size + 1 + 1; omega) (.int .i64 1)).far (p := ⟨w.heap.size + 1 + 1, 1, none⟩) (by show w.heap.size ≠ w.heap.size + 1 + 1; omega) (.pointer (some ⟨W0.heap.size, 0, none⟩))
  have hca := hG.cellK H.out HK.out (j := 0) (k := a) rfl
  simp only [Nat.add_zero] at hca
  have u3 := hNb.cell 3
  simp only [List.getElem?_toArray, List.getElem?_cons_zero, List.getElem?_cons_succ] at u3
  go_wp2_with fail
  refine (KKA.out _ hG.2).mono ?_
  rintro e3 w3 ⟨⟨g5, rfl, -⟩, hgo3⟩
  generalize tyOf xa.kind = t5 at *
  have HG3 := Lib.hid (hG.trans hgo3)
  have HP := hgo3.blk hG.2 hP (by decide)
  have HQ := hgo3.blk hG.2 hQ (by decide)
  clear hgo3 hG hP hQ
  have a0 := HP.cell 0
  have a7 := HP.cell 7
  have fp7 := HP.frozen 7
  have fp0 := HP.frozen 0
  simp only [fdCells, List.getElem?_toArray, List.getElem?_cons_zero, List.getElem?_cons_succ] at a0 a7
  have HQ1 := Lib.hid (HQ.far (p := ⟨w.heap.size + 1 + 1, 7, none⟩) (by show w.heap.size + 1 ≠ w.heap.size + 1 + 1; omega) (.iface t5 (.pointer (some ⟨g5, 0, none⟩))))
  have HGs := Lib.hid (HG3.out.set H.out (g := w.heap.size + 1 + 1) (i := 7) (by omega) (.iface t5 (.pointer (some ⟨g5, 0, none⟩))))
  have HP1 : Hid (Blk (w3.setCell ⟨w.heap.size + 1 + 1, 7, none⟩ (.iface t5 (.pointer (some ⟨g5, 0, none⟩)))) (w.heap.size + 1 + 1) 211 (fdCells none (some ⟨W0.heap.size, 0, none⟩) (.nilIface) (.iface t5 (.pointer (some ⟨g5, 0, none⟩))) .nilIface 1 hd (bits BinOp.and IntKind.i64 e.flag 4 != 0))) := Lib.hid (by simpa [fdCells] using HP.set_ 7 (.iface t5 (.pointer (some ⟨g5, 0, none⟩))))
  have HO := Lib.hid (fd_one none (some ⟨W0.heap.size, 0, none⟩) (.nilIface) (.iface t5 (.pointer (some ⟨g5, 0, none⟩))) .nilIface 1 hd (bits BinOp.and IntKind.i64 e.flag 4 != 0) (by unfold One; simp) (by unfold One; simp) (by unfold One; simp))
  clear HP HQ
  go_wp2_with (first | refine wpList_load_row rfl 211 (.tmp 9) rfl (w.heap.size + 1 + 1) rfl 211 _ (0, 0) _ HP1.out Try.underlying211 rfl size_fd ?_ | refine wpList_store_row rfl 211 (.tmp 6) (.tmp 95) rfl (w.heap.size + 1) _ rfl rfl 211 _ HQ1.out size_fd rfl HO.out ?_)
  refine bodyPost_ret (results_cell_row Try.results66 _ _ (w.heap.size + 1) 211 _ (0, 0) _ rfl HQ1.out.setRow Try.underlying211 rfl size_fd) rfl ⟨⟨_, _, _, _, _, _, _, _, rfl, by unfold One; simp, by unfold One; simp, by unfold One; simp⟩, HGs.out.setRow H.out (by omega) _⟩
set_option maxRecDepth 100000 in
set_option maxHeartbeats 6400000 in
theorem fieldIdM (X : Cx) (hok : X.OK) (e : ND) (w : World) (h : X.Inv w) (m : Nat) (hN : NodeA X m) (A2 : Option Addr) (c2 : Nat) (r : List Nat) (a : Nat) (hk : KidsOK w X.n A2 c2 (r ++ [a]))
    (hr : ∀ k ∈ r, Kd X.es [33] k) (ha : Ex X.es a) (hm : ∀ k ∈ r ++ [a], m ≤ k) (hop : 0 ≤ e.op ∧ e.op ≤ 2) (hc : bits BinOp.andNot IntKind.i64 e.flag 12 = 0) (q8 : (bits BinOp.and IntKind.i64 e.flag 8 == 0) = false) :
    Calls Try.prog 66 #[.pointer (some ⟨X.bB, 0, none⟩), .agg #[.int .i64 e.kind, .int .i64 e.op, .string e.text, .int .i64 e.flag, .int .i64 e.size], .slice A2 (r.length + 1 : Nat) c2] w (FdPost X w) := by
  have q8n : (bits BinOp.and IntKind.i64 e.flag 8 != 0) = true := by rw [bne, q8]; rfl
  have KH := Lib.hid (fun w' => hides_any e.op w' hop)
  have H := Lib.hid h
  have HK := Lib.hid hk
  have HN := Lib.hid hN
  have HM := Lib.hid hm
  have HX0 := Lib.hid (h.go (Below.refl _ _))
  have HR := Lib.hid hr
  have hrl : r.length + 1 ≤ 1000000 := by have := hk.2.2.1; simp only [List.length_cons, List.length_append, List.length_nil] at this; omega
  have hsl : (r.length + 1 : Nat) ≤ c2 := by have := hk.2.2.2; simp only [List.length_cons, List.length_append, List.length_nil] at this; omega
  obtain ⟨g, off, rfl, hgl, hc0, -⟩ := hk.cell (j := 0) (k := (r ++ [a])[0]) (by rw [List.getElem?_eq_getElem (by simp)])
  simp only [Nat.add_zero] at hc0
  have HA := Lib.hid ha
  clear hr ha
  clear h hk hN hm hop
  go_enter Try.func66, Try.ntmps66
  go_wp2_with fail
  refine (KH.out _).mono ?_
  rintro e1 w1 ⟨⟨hd, rfl⟩, rfl⟩
  clear KH
  have hP00 := Lib.hid (show Blk (((w.alloc (.cells #[.int .i64 e.kind, .int .i64 e.op, .string e.text, .int .i64 e.flag, .int .i64 e.size] 26)).alloc (.cells #[.pointer none, .pointer none, .slice none 0 0, .slice none 0 0, .slice none 0 0, .slice none 0 0, .nilIface, .nilIface, .nilIface, .pointer none, .string ⟨#[]⟩, .int .i64 0, .int .i64 0, .int .i64 0, .int .i64 0, .int .i64 0, .int .i64 0, .bool false] 211)).alloc (.cells #[.pointer none, .pointer none, .slice none 0 0, .slice none 0 0, .slice none 0 0, .slice none 0 0, .nilIface, .nilIface, .nilIface, .pointer none, .string ⟨#[]⟩, .int .i64 0, .int .i64 0, .int .i64 0, .int .i64 0, .int .i64 0, .int .i64 0, .bool false] 211)) (w.heap.size + 1 + 1) 211 #[.pointer none, .pointer none, .slice none 0 0, .slice none 0 0, .slice none 0 0, .slice none 0 0, .nilIface, .nilIface, .nilIface, .pointer none, .string ⟨#[]⟩, .int .i64 0, .int .i64 0, .int .i64 0, .int .i64 0, .int .i64 0, .int .i64 0, .bool false] from Blk.newAt _ _ (by simp) _ _)
  have HO0 := Lib.hid (fd_one none none .nilIface .nilIface .nilIface 0 hd (bits BinOp.and IntKind.i64 e.flag 4 != 0) (.inl rfl) (.inl rfl) (.inl rfl))
  go_upto_region 3 with (refine wpList_store_row rfl 211 (.tmp 9) (.tmp 22) rfl (w.heap.size + 1 + 1) (fdCells none none .nilIface .nilIface .nilIface 0 hd (bits BinOp.and IntKind.i64 e.flag 4 != 0)) rfl rfl 211 _ hP00.out size_fd rfl HO0.out ?_)
  have hG0 := (((HX0.out.alloc (.cells #[.int .i64 e.kind, .int .i64 e.op, .string e.text, .int .i64 e.flag, .int .i64 e.size] 26)).alloc (.cells #[.pointer none, .pointer none, .slice none 0 0, .slice none 0 0, .slice none 0 0, .slice none 0 0, .nilIface, .nilIface, .nilIface, .pointer none, .string ⟨#[]⟩, .int .i64 0, .int .i64 0, .int .i64 0, .int .i64 0, .int .i64 0, .int .i64 0, .bool false] 211)).alloc (.cells #[.pointer none, .pointer none, .slice none 0 0, .slice none 0 0, .slice none 0 0, .slice none 0 0, .nilIface, .nilIface, .nilIface, .pointer none, .string ⟨#[]⟩, .int .i64 0, .int .i64 0, .int .i64 0, .int .i64 0, .int .i64 0, .int .i64 0, .bool false] 211)).setRow H.out (g := w.heap.size + 1 + 1) (by omega) (fdCells none none .nilIface .nilIface .nilIface 0 hd (bits BinOp.and IntKind.i64 e.flag 4 != 0))
  have hb0 : Blk ((((w.alloc (.cells #[.int .i64 e.kind, .int .i64 e.op, .string e.text, .int .i64 e.flag, .int .i64 e.size] 26)).alloc (.cells #[.pointer none, .pointer none, .slice none 0 0, .slice none 0 0, .slice none 0 0, .slice none 0 0, .nilIface, .nilIface, .nilIface, .pointer none, .string ⟨#[]⟩, .int .i64 0, .int .i64 0, .int .i64 0, .int .i64 0, .int .i64 0, .int .i64 0, .bool false] 211)).alloc (.cells #[.pointer none, .pointer none, .slice none 0 0, .slice none 0 0, .slice none 0 0, .slice none 0 0, .nilIface, .nilIface, .nilIface, .pointer none, .string ⟨#[]⟩, .int .i64 0, .int .i64 0, .int .i64 0, .int .i64 0, .int .i64 0, .int .i64 0, .bool false] 211)).setRow (w.heap.size + 1 + 1) (fdCells none none .nilIface .nilIface .nilIface 0 hd (bits BinOp.and IntKind.i64 e.flag 4 != 0))) w.heap.size 26 #[.int .i64 e.kind, .int .i64 e.op, .string e.text, .int .i64 e.flag, .int .i64 e.size] := (((Blk.new _ _ _).alloc _).alloc _).farRow (by omega) _
  have hQ0 : Blk ((((w.alloc (.cells #[.int .i64 e.kind, .int .i64 e.op, .string e.text, .int .i64 e.flag, .int .i64 e.size] 26)).alloc (.cells #[.pointer none, .pointer none, .slice none 0 0, .slice none 0 0, .slice none 0 0, .slice none 0 0, .nilIface, .nilIface, .nilIface, .pointer none, .string ⟨#[]⟩, .int .i64 0, .int .i64 0, .int .i64 0, .int .i64 0, .int .i64 0, .int .i64 0, .bool false] 211)).alloc (.cells #[.pointer none, .pointer none, .slice none 0 0, .slice none 0 0, .slice none 0 0, .slice none 0 0, .nilIface, .nilIface, .nilIface, .pointer none, .string ⟨#[]⟩, .int .i64 0, .int .i64 0, .int .i64 0, .int .i64 0, .int .i64 0, .int .i64 0, .bool false] 211)).setRow (w.heap.size + 1 + 1) (fdCells none none .nilIface .nilIface .nilIface 0 hd (bits BinOp.and IntKind.i64 e.flag 4 != 0))) (w.heap.size + 1) 211 #[.pointer none, .pointer none, .slice none 0 0, .slice none 0 0, .slice none 0 0, .slice none 0 0, .nilIface, .nilIface, .nilIface, .pointer none, .string ⟨#[]⟩, .int .i64 0, .int .i64 0, .int .i64 0, .int .i64 0, .int .i64 0, .int .i64 0, .bool false] := ((Blk.newAt _ _ (by simp) _ _).alloc _).farRow (by omega) _
  have hP0 : Blk ((((w.alloc (.cells #[.int .i64 e.kind, .int .i64 e.op, .string e.text, .int .i64 e.flag, .int .i64 e.size] 26)).alloc (.cells #[.pointer none, .pointer none, .slice none 0 0, .slice none 0 0, .slice none 0 0, .slice none 0 0, .nilIface, .nilIface, .nilIface, .pointer none, .string ⟨#[]⟩, .int .i64 0, .int .i64 0, .int .i64 0, .int .i64 0, .int .i64 0, .int .i64 0, .bool false] 211)).alloc (.cells #[.pointer none, .pointer none, .slice none 0 0, .slice none 0 0, .slice none 0 0, .slice none 0 0, .nilIface, .nilIface, .nilIface, .pointer none, .string ⟨#[]⟩, .int .i64 0, .int .i64 0, .int .i64 0, .int .i64 0, .int .i64 0, .int .i64 0, .bool false] 211)).setRow (w.heap.size + 1 + 1) (fdCells none none .nilIface .nilIface .nilIface 0 hd (bits BinOp.and IntKind.i64 e.flag 4 != 0))) (w.heap.size + 1 + 1) 211 (fdCells none none .nilIface .nilIface .nilIface 0 hd (bits BinOp.and IntKind.i64 e.flag 4 != 0)) := hP00.out.setRow
  obtain ⟨W0, hW0⟩ : ∃ W0, ((((w.alloc (.cells #[.int .i64 e.kind, .int .i64 e.op, .string e.text, .int .i64 e.flag, .int .i64 e.size] 26)).alloc (.cells #[.pointer none, .pointer none, .slice none 0 0, .slice none 0 0, .slice none 0 0, .slice none 0 0, .nilIface, .nilIface, .nilIface, .pointer none, .string ⟨#[]⟩, .int .i64 0, .int .i64 0, .int .i64 0, .int .i64 0, .int .i64 0, .int .i64 0, .bool false] 211)).alloc (.cells #[.pointer none, .pointer none, .slice none 0 0, .slice none 0 0, .slice none 0 0, .slice none 0 0, .nilIface, .nilIface, .nilIface, .pointer none, .string ⟨#[]⟩, .int .i64 0, .int .i64 0, .int .i64 0, .int .i64 0, .int .i64 0, .int .i64 0, .bool false] 211)).setRow (w.heap.size + 1 + 1) (fdCells none none .nilIface .nilIface .nilIface 0 hd (bits BinOp.and IntKind.i64 e.flag 4 != 0))) = W0 := ⟨_, rfl⟩
  rw [hW0] at hG0 hb0 hQ0 hP0
  rw [hW0]
  clear hW0
  have n2 := hb0.cell 2
  have n3 := hb0.cell 3
  simp only [List.getElem?_toArray, List.getElem?_cons_zero, List.getElem?_cons_succ] at n2 n3
  have hG1 := hG0.alloc (.cells #[.string e.text] 112)
  have hQ1 := hQ0.alloc (.cells #[.string e.text] 112)
  have hP1 := hP0.alloc (.cells #[.string e.text] 112)
  have hB1 := hb0.alloc (.cells #[.string e.text] 112)
  have p15 := hP1.cell 15
  have pS := hP1.cell 1
  have f15 := hP1.frozen 15
  have fS := hP1.frozen 1
  have n1 := hB1.cell 3
  simp only [fdCells, List.getElem?_toArray, List.getElem?_cons_zero, List.getElem?_cons_succ] at p15 pS n1
  have hG := (hG1.set H.out (g := w.heap.size + 1 + 1) (i := 15) (by omega) (.int .i64 1)).set H.out (g := w.heap.size + 1 + 1) (i := 1) (by omega) (.pointer (some ⟨W0.heap.size, 0, none⟩))
  have hQ := (hQ1.far (p := ⟨w.heap.size + 1 + 1, 15, none⟩) (by show w.heap.size + 1 ≠ w.heap.size + 1 + 1; omega) (.int .i64 1)).far (p := ⟨w.heap.size + 1 + 1, 1, none⟩) (by show w.heap.size + 1 ≠ w.heap.size + 1 + 1; omega) (.pointer (some ⟨W0.heap.size, 0, none⟩))
  have hP : Blk (((W0.alloc (.cells #[.string e.text] 112)).setCell ⟨w.heap.size + 1 + 1, 15, none⟩ (.int .i64 1)).setCell ⟨w.heap.size + 1 + 1, 1, none⟩ (.pointer (some ⟨W0.heap.size, 0, none⟩))) (w.heap.size + 1 + 1) 211 (fdCells none (some ⟨W0.heap.size, 0, none⟩) (.nilIface) .nilIface .nilIface 1 hd (bits BinOp.and IntKind.i64 e.flag 4 != 0)) := by simpa [fdCells] using (hP1.set_ 15 (.int .i64 1)).set_ 1 (.pointer (some ⟨W0.heap.size, 0, none⟩))
  have hNb := (hB1.far (p := ⟨w.heap.size + 1 + 1, 15, none⟩) (by show w.heap.size ≠ w.heap.size + 1 + 1; omega) (.int .i64 1)).far (p := ⟨w.heap.size + 1 + 1, 1, none⟩) (by show w.heap.size ≠ w.heap.size + 1 + 1; omega) (.pointer (some ⟨W0.heap.size, 0, none⟩))
  have KF := Lib.hid (function_any X hok _ hG.2 m HN.out (some ⟨g, off, none⟩) c2 r a (hG.kids H.out HK.out) HR.out HA.out HM.out)
  have ne1 : (((r.length + 1 : Nat) : Int) == 0) = false := by simp; omega
  have u3 := hNb.cell 3
  simp only [List.getElem?_toArray, List.getElem?_cons_zero, List.getElem?_cons_succ] at u3
  go_wp2_with fail
  refine KF.out.mono ?_
  rintro e3 w3 ⟨⟨g5, t5, g6, rfl, hc5⟩, hgo3⟩
  have HG3 := Lib.hid (hG.trans hgo3)
  have HP := hgo3.blk hG.2 hP (by decide)
  have HQ := hgo3.blk hG.2 hQ (by decide)
  clear hgo3 hG hP hQ
  have a0 := HP.cell 0
  have a7 := HP.cell 7
  have fp7 := HP.frozen 7
  have fp0 := HP.frozen 0
  simp only [fdCells, List.getElem?_toArray, List.getElem?_cons_zero, List.getElem?_cons_succ] at a0 a7
  have HQ1 := Lib.hid ((HQ.far (p := ⟨w.heap.size + 1 + 1, 0, none⟩) (by show w.heap.size + 1 ≠ w.heap.size + 1 + 1; omega) (.pointer (some ⟨g5, 0, none⟩))).far (p := ⟨w.heap.size + 1 + 1, 7, none⟩) (by show w.heap.size + 1 ≠ w.heap.size + 1 + 1; omega) (.iface t5 (.pointer (some ⟨g6, 0, none⟩))))
  have HGs := Lib.hid ((HG3.out.set H.out (g := w.heap.size + 1 + 1) (i := 0) (by omega) (.pointer (some ⟨g5, 0, none⟩))).set H.out (g := w.heap.size + 1 + 1) (i := 7) (by omega) (.iface t5 (.pointer (some ⟨g6, 0, none⟩))))
  have HP1 : Hid (Blk ((w3.setCell ⟨w.heap.size + 1 + 1, 0, none⟩ (.pointer (some ⟨g5, 0, none⟩))).setCell ⟨w.heap.size + 1 + 1, 7, none⟩ (.iface t5 (.pointer (some ⟨g6, 0, none⟩)))) (w.heap.size + 1 + 1) 211 (fdCells (some ⟨g5, 0, none⟩) (some ⟨W0.heap.size, 0, none⟩) (.nilIface) (.iface t5 (.pointer (some ⟨g6, 0, none⟩))) .nilIface 1 hd (bits BinOp.and IntKind.i64 e.flag 4 != 0))) := Lib.hid (by simpa [fdCells] using (HP.set_ 0 (.pointer (some ⟨g5, 0, none⟩))).set_ 7 (.iface t5 (.pointer (some ⟨g6, 0, none⟩))))
  have HO := Lib.hid (fd_one (some ⟨g5, 0, none⟩) (some ⟨W0.heap.size, 0, none⟩) (.nilIface) (.iface t5 (.pointer (some ⟨g6, 0, none⟩))) .nilIface 1 hd (bits BinOp.and IntKind.i64 e.flag 4 != 0) (by unfold One; simp) (by unfold One; simp) (by unfold One; simp))
  clear HP HQ
  go_wp2_with (first | refine wpList_load_row rfl 211 (.tmp 9) rfl (w.heap.size + 1 + 1) rfl 211 _ (0, 0) _ HP1.out Try.underlying211 rfl size_fd ?_ | refine wpList_store_row rfl 211 (.tmp 6) (.tmp 95) rfl (w.heap.size + 1) _ rfl rfl 211 _ HQ1.out size_fd rfl HO.out ?_)
  refine bodyPost_ret (results_cell_row Try.results66 _ _ (w.heap.size + 1) 211 _ (0, 0) _ rfl HQ1.out.setRow Try.underlying211 rfl size_fd) rfl ⟨⟨_, _, _, _, _, _, _, _, rfl, by unfold One; simp, by unfold One; simp, by unfold One; simp⟩, HGs.out.setRow H.out (by omega) _⟩
set_option maxRecDepth 100000 in
set_option maxHeartbeats 6400000 in
theorem fieldStrB (X : Cx) (e : ND) (w : World) (h : X.Inv w) (m : Nat) (hN : NodeA X m) (A2 : Option Addr) (c2 : Nat) (a : Nat) (hk : KidsOK w X.n A2 c2 ([a]))
    (ha : Ex X.es a) (hm : ∀ k ∈ [a], m ≤ k) (hop : 0 ≤ e.op ∧ e.op ≤ 2) (hc : bits BinOp.andNot IntKind.i64 e.flag 12 = 1) (q8 : (bits BinOp.and IntKind.i64 e.flag 8 == 0) = true) :
    Calls Try.prog 66 #[.pointer (some ⟨X.bB, 0, none⟩), .agg #[.int .i64 e.kind, .int .i64 e.op, .string e.text, .int .i64 e.flag, .int .i64 e.size], .slice A2 1 c2] w (FdPost X w) := by
  have q8n : (bits BinOp.and IntKind.i64 e.flag 8 != 0) = false := by rw [bne, q8]; rfl
  have KH := Lib.hid (fun w' => hides_any e.op w' hop)
  have H := Lib.hid h
  have HK := Lib.hid hk
  have HN := Lib.hid hN
  have HM := Lib.hid hm
  have HX0 := Lib.hid (h.go (Below.refl _ _))
  obtain ⟨g, off, rfl, hgl, hc0, -⟩ := hk.cell (j := 0) (k := a) rfl
  simp only [Nat.add_zero] at hc0
  obtain ⟨xa, -, KA⟩ := hN a (hm a (by simp)) ha
  have KKA := Lib.hid KA
  clear KA ha
  clear h hk hN hm hop
  go_enter Try.func66, Try.ntmps66
  go_wp2_with fail
  refine (KH.out _).mono ?_
  rintro e1 w1 ⟨⟨hd, rfl⟩, rfl⟩
  clear KH
  have hP00 := Lib.hid (show Blk (((w.alloc (.cells #[.int .i64 e.kind, .int .i64 e.op, .string e.text, .int .i64 e.flag, .int .i64 e.size] 26)).alloc (.cells #[.pointer none, .pointer none, .slice none 0 0, .slice none 0 0, .slice none 0 0, .slice none 0 0, .nilIface, .nilIface, .nilIface, .pointer none, .string ⟨#[]⟩, .int .i64 0, .int .i64 0, .int .i64 0, .int .i64 0, .int .i64 0, .int .i64 0, .bool false] 211)).alloc (.cells #[.pointer none, .pointer none, .slice none 0 0, .slice none 0 0, .slice none 0 0, .slice none 0 0, .nilIface, .nilIface, .nilIface, .pointer none, .string ⟨#[]⟩, .int .i64 0, .int .i64 0, .int .i64 0, .int .i64 0, .int .i64 0, .int .i64 0, .bool false] 211)) (w.heap.size + 1 + 1) 211 #[.pointer none, .pointer none, .slice none 0 0, .slice none 0 0, .slice none 0 0, .slice none 0 0, .nilIface, .nilIface, .nilIface, .pointer none, .string ⟨#[]⟩, .int .i64 0, .int .i64 0, .int .i64 0, .int .i64 0, .int .i64 0, .int .i64 0, .bool false] from Blk.newAt _ _ (by simp) _ _)
  have HO0 := Lib.hid (fd_one none none .nilIface .nilIface .nilIface 0 hd (bits BinOp.and IntKind.i64 e.flag 4 != 0) (.inl rfl) (.inl rfl) (.inl rfl))
  go_upto_region 3 with (refine wpList_store_row rfl 211 (.tmp 9) (.tmp 22) rfl (w.heap.size + 1 + 1) (fdCells none none .nilIface .nilIface .nilIface 0 hd (bits BinOp.and IntKind.i64 e.flag 4 != 0)) rfl rfl 211 _ hP00.out size_fd rfl HO0.out ?_)
  have hG0 := (((HX0.out.alloc (.cells #[.int .i64 e.kind, .int .i64 e.op, .string e.text, .int .i64 e.flag, .int .i64 e.size] 26)).alloc (.cells #[.pointer none, .pointer none, .slice none 0 0, .slice none 0 0, .slice none 0 0, .slice none 0 0, .nilIface, .nilIface, .nilIface, .pointer none, .string ⟨#[]⟩, .int .i64 0, .int .i64 0, .int .i64 0, .int .i64 0, .int .i64 0, .int .i64 0, .bool false] 211)).alloc (.cells #[.pointer none, .pointer none, .slice none 0 0, .slice none 0 0, .slice none 0 0, .slice none 0 0, .nilIface, .nilIface, .nilIface, .pointer none, .string ⟨#[]⟩, .int .i64 0, .int .i64 0, .int .i64 0, .int .i64 0, .int .i64 0, .int .i64 0, .bool false] 211)).setRow H.out (g := w.heap.size + 1 + 1) (by omega) (fdCells none none .nilIface .nilIface .nilIface 0 hd (bits BinOp.and IntKind.i64 e.flag 4 != 0))
  have hb0 : Blk ((((w.alloc (.cells #[.int .i64 e.kind, .int .i64 e.op, .string e.text, .int .i64 e.flag, .int .i64 e.size] 26)).alloc (.cells #[.pointer none, .pointer none, .slice none 0 0, .slice none 0 0, .slice none 0 0, .slice none 0 0, .nilIface, .nilIface, .nilIface, .pointer none, .string ⟨#[]⟩, .int .i64 0, .int .i64 0, .int .i64 0, .int .i64 0, .int .i64 0, .int .i64 0, .bool false] 211)).alloc (.cells #[.pointer none, .pointer none, .slice none 0 0, .slice none 0 0, .slice none 0 0, .slice none 0 0, .nilIface, .nilIface, .nilIface, .pointer none, .string ⟨#[]⟩, .int .i64 0, .int .i64 0, .int .i64 0, .int .i64 0, .int .i64 0, .int .i64 0, .bool false] 211)).setRow (w.heap.size + 1 + 1) (fdCells none none .nilIface .nilIface .nilIface 0 hd (bits BinOp.and IntKind.i64 e.flag 4 != 0))) w.heap.size 26 #[.int .i64 e.kind, .int .i64 e.op, .string e.text, .int .i64 e.flag, .int .i64 e.size] := (((Blk.new _ _ _).alloc _).alloc _).farRow (by omega) _
  have hQ0 : Blk ((((w.alloc (.cells #[.int .i64 e.kind, .int .i64 e.op, .string e.text, .int .i64 e.flag, .int .i64 e.size] 26)).alloc (.cells #[.pointer none, .pointer none, .slice none 0 0, .slice none 0 0, .slice none 0 0, .slice none 0 0, .nilIface, .nilIface, .nilIface, .pointer none, .string ⟨#[]⟩, .int .i64 0, .int .i64 0, .int .i64 0, .int .i64 0, .int .i64 0, .int .i64 0, .bool false] 211)).alloc (.cells #[.pointer none, .pointer none, .slice none 0 0, .slice none 0 0, .slice none 0 0, .slice none 0 0, .nilIface, .nilIface, .nilIface, .pointer none, .string ⟨#[]⟩, .int .i64 0, .int .i64 0, .int .i64 0, .int .i64 0, .int .i64 0, .int .i64 0, .bool false] 211)).setRow (w.heap.size + 1 + 1) (fdCells none none .nilIface .nilIface .nilIface 0 hd (bits BinOp.and IntKind.i64 e.flag 4 != 0))) (w.heap.size + 1) 211 #[.pointer none, .pointer none, .slice none 0 0, .slice none 0 0, .slice none 0 0, .slice none 0 0, .nilIface, .nilIface, .nilIface, .pointer none, .string ⟨#[]⟩, .int .i64 0, .int .i64 0, .int .i64 0, .int .i64 0, .int .i64 0, .int .i64 0, .bool false] := ((Blk.newAt _ _ (by simp) _ _).alloc _).farRow (by omega) _
  have hP0 : Blk ((((w.alloc (.cells #[.int .i64 e.kind, .int .i64 e.op, .string e.text, .int .i64 e.flag, .int .i64 e.size] 26)).alloc (.cells #[.pointer none, .pointer none, .slice none 0 0, .slice none 0 0, .slice none 0 0, .slice none 0 0, .nilIface, .nilIface, .nilIface, .pointer none, .string ⟨#[]⟩, .int .i64 0, .int .i64 0, .int .i64 0, .int .i64 0, .int .i64 0, .int .i64 0, .bool false] 211)).alloc (.cells #[.pointer none, .pointer none, .slice none 0 0, .slice none 0 0, .slice none 0 0, .slice none 0 0, .nilIface, .nilIface, .nilIface, .pointer none, .string ⟨#[]⟩, .int .i64 0, .int .i64 0, .int .i64 0, .int .i64 0, .int .i64 0, .int .i64 0, .bool false] 211)).setRow (w.heap.size + 1 + 1) (fdCells none none .nilIface .nilIface .nilIface 0 hd (bits BinOp.and IntKind.i64 e.flag 4 != 0))) (w.heap.size + 1 + 1) 211 (fdCells none none .nilIface .nilIface .nilIface 0 hd (bits BinOp.and IntKind.i64 e.flag 4 != 0)) := hP00.out.setRow
  obtain ⟨W0, hW0⟩ : ∃ W0, ((((w.alloc (.cells #[.int .i64 e.kind, .int .i64 e.op, .string e.text, .int .i64 e.flag, .int .i64 e.size] 26)).alloc (.cells #[.pointer none, .pointer none, .slice none 0 0, .slice none 0 0, .slice none 0 0, .slice none 0 0, .nilIface, .nilIface, .nilIface, .pointer none, .string ⟨#[]⟩, .int .i64 0, .int .i64 0, .int .i64 0, .int .i64 0, .int .i64 0, .int .i64 0, .bool false] 211)).alloc (.cells #[.pointer none, .pointer none, .slice none 0 0, .slice none 0 0, .slice none 0 0, .slice none 0 0, .nilIface, .nilIface, .nilIface, .pointer none, .string ⟨#[]⟩, .int .i64 0, .int .i64 0, .int .i64 0, .int .i64 0, .int .i64 0, .int .i64 0, .bool false] 211)).setRow (w.heap.size + 1 + 1) (fdCells none none .nilIface .nilIface .nilIface 0 hd (bits BinOp.and IntKind.i64 e.flag 4 != 0))) = W0 := ⟨_, rfl⟩
  rw [hW0] at hG0 hb0 hQ0 hP0
  rw [hW0]
  clear hW0
  have n2 := hb0.cell 2
  have n3 := hb0.cell 3
  simp only [List.getElem?_toArray, List.getElem?_cons_zero, List.getElem?_cons_succ] at n2 n3
  go_wp2_with fail
  refine (str_any X e.text _ hG0.2).mono ?_
  rintro e2 w2 ⟨⟨gs, rfl⟩, hb2⟩
  have hG1 := hG0.then hb2
  have hQ1 := hQ0.below hb2 hQ0.lt
  have hP1 := hP0.below hb2 hP0.lt
  have hB1 := hb0.below hb2 hb0.lt
  have p15 := hP1.cell 15
  have pS := hP1.cell 6
  have f15 := hP1.frozen 15
  have fS := hP1.frozen 6
  have n1 := hB1.cell 3
  simp only [fdCells, List.getElem?_toArray, List.getElem?_cons_zero, List.getElem?_cons_succ] at p15 pS n1
  have hG := (hG1.set H.out (g := w.heap.size + 1 + 1) (i := 15) (by omega) (.int .i64 3)).set H.out (g := w.heap.size + 1 + 1) (i := 6) (by omega) (.iface 105 (.pointer (some ⟨gs, 0, none⟩)))
  have hQ := (hQ1.far (p := ⟨w.heap.size + 1 + 1, 15, none⟩) (by show w.heap.size + 1 ≠ w.heap.size + 1 + 1; omega) (.int .i64 3)).far (p := ⟨w.heap.size + 1 + 1, 6, none⟩) (by show w.heap.size + 1 ≠ w.heap.size + 1 + 1; omega) (.iface 105 (.pointer (some ⟨gs, 0, none⟩)))
  have hP : Blk ((w2.setCell ⟨w.heap.size + 1 + 1, 15, none⟩ (.int .i64 3)).setCell ⟨w.heap.size + 1 + 1, 6, none⟩ (.iface 105 (.pointer (some ⟨gs, 0, none⟩)))) (w.heap.size + 1 + 1) 211 (fdCells none none (.iface 105 (.pointer (some ⟨gs, 0, none⟩))) .nilIface .nilIface 3 hd (bits BinOp.and IntKind.i64 e.flag 4 != 0)) := by simpa [fdCells] using (hP1.set_ 15 (.int .i64 3)).set_ 6 (.iface 105 (.pointer (some ⟨gs, 0, none⟩)))
  have hNb := (hB1.far (p := ⟨w.heap.size + 1 + 1, 15, none⟩) (by show w.heap.size ≠ w.heap.size + 1 + 1; omega) (.int .i64 3)).far (p := ⟨w.heap.size + 1 + 1, 6, none⟩) (by show w.heap.size ≠ w.heap.size + 1 + 1; omega) (.iface 105 (.pointer (some ⟨gs, 0, none⟩)))
  have hca := hG.cellK H.out HK.out (j := 0) (k := a) rfl
  simp only [Nat.add_zero] at hca
  have u3 := hNb.cell 3
  simp only [List.getElem?_toArray, List.getElem?_cons_zero, List.getElem?_cons_succ] at u3
  go_wp2_with fail
  refine (KKA.out _ hG.2).mono ?_
  rintro e3 w3 ⟨⟨g5, rfl, -⟩, hgo3⟩
  generalize tyOf xa.kind = t5 at *
  have HG3 := Lib.hid (hG.trans hgo3)
  have HP := hgo3.blk hG.2 hP (by decide)
  have HQ := hgo3.blk hG.2 hQ (by decide)
  clear hgo3 hG hP hQ
  have a0 := HP.cell 0
  have a7 := HP.cell 7
  have fp7 := HP.frozen 7
  have fp0 := HP.frozen 0
  simp only [fdCells, List.getElem?_toArray, List.getElem?_cons_zero, List.getElem?_cons_succ] at a0 a7
  have HQ1 := Lib.hid (HQ.far (p := ⟨w.heap.size + 1 + 1, 7, none⟩) (by show w.heap.size + 1 ≠ w.heap.size + 1 + 1; omega) (.iface t5 (.pointer (some ⟨g5, 0, none⟩))))
  have HGs := Lib.hid (HG3.out.set H.out (g := w.heap.size + 1 + 1) (i := 7) (by omega) (.iface t5 (.pointer (some ⟨g5, 0, none⟩))))
  have HP1 : Hid (Blk (w3.setCell ⟨w.heap.size + 1 + 1, 7, none⟩ (.iface t5 (.pointer (some ⟨g5, 0, none⟩)))) (w.heap.size + 1 + 1) 211 (fdCells none none (.iface 105 (.pointer (some ⟨gs, 0, none⟩))) (.iface t5 (.pointer (some ⟨g5, 0, none⟩))) .nilIface 3 hd (bits BinOp.and IntKind.i64 e.flag 4 != 0))) := Lib.hid (by simpa [fdCells] using HP.set_ 7 (.iface t5 (.pointer (some ⟨g5, 0, none⟩))))
  have HO := Lib.hid (fd_one none none (.iface 105 (.pointer (some ⟨gs, 0, none⟩))) (.iface t5 (.pointer (some ⟨g5, 0, none⟩))) .nilIface 3 hd (bits BinOp.and IntKind.i64 e.flag 4 != 0) (by unfold One; simp) (by unfold One; simp) (by unfold One; simp))
  clear HP HQ
  go_wp2_with (first | refine wpList_load_row rfl 211 (.tmp 9) rfl (w.heap.size + 1 + 1) rfl 211 _ (0, 0) _ HP1.out Try.underlying211 rfl size_fd ?_ | refine wpList_store_row rfl 211 (.tmp 6) (.tmp 95) rfl (w.heap.size + 1) _ rfl rfl 211 _ HQ1.out size_fd rfl HO.out ?_)
  refine bodyPost_ret (results_cell_row Try.results66 _ _ (w.heap.size + 1) 211 _ (0, 0) _ rfl HQ1.out.setRow Try.underlying211 rfl size_fd) rfl ⟨⟨_, _, _, _, _, _, _, _, rfl, by unfold One; simp, by unfold One; simp, by unfold One; simp⟩, HGs.out.setRow H.out (by omega) _⟩
set_option maxRecDepth 100000 in
set_option maxHeartbeats 6400000 in
theorem fieldStrM (X : Cx) (hok : X.OK) (e : ND) (w : World) (h : X.Inv w) (m : Nat) (hN : NodeA X m) (A2 : Option Addr) (c2 : Nat) (r : List Nat) (a : Nat) (hk : KidsOK w X.n A2 c2 (r ++ [a]))
    (hr : ∀ k ∈ r, Kd X.es [33] k) (ha : Ex X.es a) (hm : ∀ k ∈ r ++ [a], m ≤ k) (hop : 0 ≤ e.op ∧ e.op ≤ 2) (hc : bits BinOp.andNot IntKind.i64 e.flag 12 = 1) (q8 : (bits BinOp.and IntKind.i64 e.flag 8 == 0) = false) :
    Calls Try.prog 66 #[.pointer (some ⟨X.bB, 0, none⟩), .agg #[.int .i64 e.kind, .int .i64 e.op, .string e.text, .int .i64 e.flag, .int .i64 e.size], .slice A2 (r.length + 1 : Nat) c2] w (FdPost X w) := by
  have q8n : (bits BinOp.and IntKind.i64 e.flag 8 != 0) = true := by rw [bne, q8]; rfl
  have KH := Lib.hid (fun w' => hides_any e.op w' hop)
  have H := Lib.hid h
  have HK := Lib.hid hk
  have HN := Lib.hid hN
  have HM := Lib.hid hm
  have HX0 := Lib.hid (h.go (Below.refl _ _))
  have HR := Lib.hid hr
  have hrl : r.length + 1 ≤ 1000000 := by have := hk.2.2.1; simp only [List.length_cons, List.length_append, List.length_nil] at this; omega
  have hsl : (r.length + 1 : Nat) ≤ c2 := by have := hk.2.2.2; simp only [List.length_cons, List.length_append, List.length_nil] at this; omega
  obtain ⟨g, off, rfl, hgl, hc0, -⟩ := hk.cell (j := 0) (k := (r ++ [a])[0]) (by rw [List.getElem?_eq_getElem (by simp)])
  simp only [Nat.add_zero] at hc0
  have HA := Lib.hid ha
  clear hr ha
  clear h hk hN hm hop
  go_enter Try.func66, Try.ntmps66
  go_wp2_with fail
  refine (KH.out _).mono ?_
  rintro e1 w1 ⟨⟨hd, rfl⟩, rfl⟩
  clear KH
  have hP00 := Lib.hid (show Blk (((w.alloc (.cells #[.int .i64 e.kind, .int .i64 e.op, .string e.text, .int .i64 e.flag, .int .i64 e.size] 26)).alloc (.cells #[.pointer none, .pointer none, .slice none 0 0, .slice none 0 0, .slice none 0 0, .slice none 0 0, .nilIface, .nilIface, .nilIface, .pointer none, .string ⟨#[]⟩, .int .i64 0, .int .i64 0, .int .i64 0, .int .i64 0, .int .i64 0, .int .i64 0, .bool false] 211)).alloc (.cells #[.pointer none, .pointer none, .slice none 0 0, .slice none 0 0, .slice none 0 0, .slice none 0 0, .nilIface, .nilIface, .nilIface, .pointer none, .string ⟨#[]⟩, .int .i64 0, .int .i64 0, .int .i64 0, .int .i64 0, .int .i64 0, .int .i64 0, .bool false] 211)) (w.heap.size + 1 + 1) 211 #[.pointer none, .pointer none, .slice none 0 0, .slice none 0 0, .slice none 0 0, .slice none 0 0, .nilIface, .nilIface, .nilIface, .pointer none, .string ⟨#[]⟩, .int .i64 0, .int .i64 0, .int .i64 0, .int .i64 0, .int .i64 0, .int .i64 0, .bool false] from Blk.newAt _ _ (by simp) _ _)
  have HO0 := Lib.hid (fd_one none none .nilIface .nilIface .nilIface 0 hd (bits BinOp.and IntKind.i64 e.flag 4 != 0) (.inl rfl) (.inl rfl) (.inl rfl))
  go_upto_region 3 with (refine wpList_store_row rfl 211 (.tmp 9) (.tmp 22) rfl (w.heap.size + 1 + 1) (fdCells none none .nilIface .nilIface .nilIface 0 hd (bits BinOp.and IntKind.i64 e.flag 4 != 0)) rfl rfl 211 _ hP00.out size_fd rfl HO0.out ?_)
  have hG0 := (((HX0.out.alloc (.cells #[.int .i64 e.kind, .int .i64 e.op, .string e.text, .int .i64 e.flag, .int .i64 e.size] 26)).alloc (.cells #[.pointer none, .pointer none, .slice none 0 0, .slice none 0 0, .slice none 0 0, .slice none 0 0, .nilIface, .nilIface, .nilIface, .pointer none, .string ⟨#[]⟩, .int .i64 0, .int .i64 0, .int .i64 0, .int .i64 0, .int .i64 0, .int .i64 0, .bool false] 211)).alloc (.cells #[.pointer none, .pointer none, .slice none 0 0, .slice none 0 0, .slice none 0 0, .slice none 0 0, .nilIface, .nilIface, .nilIface, .pointer none, .string ⟨#[]⟩, .int .i64 0, .int .i64 0, .int .i64 0, .int .i64 0, .int .i64 0, .int .i64 0, .bool false] 211)).setRow H.out (g := w.heap.size + 1 + 1) (by omega) (fdCells none none .nilIface .nilIface .nilIface 0 hd (bits BinOp.and IntKind.i64 e.flag 4 != 0))
  have hb0 : Blk ((((w.alloc (.cells #[.int .i64 e.kind, .int .i64 e.op, .string e.text, .int .i64 e.flag, .int .i64 e.size] 26)).alloc (.cells #[.pointer none, .pointer none, .slice none 0 0, .slice none 0 0, .slice none 0 0, .slice none 0 0, .nilIface, .nilIface, .nilIface, .pointer none, .string ⟨#[]⟩, .int .i64 0, .int .i64 0, .int .i64 0, .int .i64 0, .int .i64 0, .int .i64 0, .bool false] 211)).alloc (.cells #[.pointer none, .pointer none, .slice none 0 0, .slice none 0 0, .slice none 0 0, .slice none 0 0, .nilIface, .nilIface, .nilIface, .pointer none, .string ⟨#[]⟩, .int .i64 0, .int .i64 0, .int .i64 0, .int .i64 0, .int .i64 0, .int .i64 0, .bool false] 211)).setRow (w.heap.size + 1 + 1) (fdCells none none .nilIface .nilIface .nilIface 0 hd (bits BinOp.and IntKind.i64 e.flag 4 != 0))) w.heap.size 26 #[.int .i64 e.kind, .int .i64 e.op, .string e.text, .int .i64 e.flag, .int .i64 e.size] := (((Blk.new _ _ _).alloc _).alloc _).farRow (by omega) _
  have hQ0 : Blk ((((w.alloc (.cells #[.int .i64 e.kind, .int .i64 e.op, .string e.text, .int .i64 e.flag, .int .i64 e.size] 26)).alloc (.cells #[.pointer none, .pointer none, .slice none 0 0, .slice none 0 0, .slice none 0 0, .slice none 0 0, .nilIface, .nilIface, .nilIface, .pointer none, .string ⟨#[]⟩, .int .i64 0, .int .i64 0, .int .i64 0, .int .i64 0, .int .i64 0, .int .i64 0, .bool false] 211)).alloc (.cells #[.pointer none, .pointer none, .slice none 0 0, .slice none 0 0, .slice none 0 0, .slice none 0 0, .nilIface, .nilIface, .nilIface, .pointer none, .string ⟨#[]⟩, .int .i64 0, .int .i64 0, .int .i64 0, .int .i64 0, .int .i64 0, .int .i64 0, .bool false] 211)).setRow (w.heap.size + 1 + 1) (fdCells none none .nilIface .nilIface .nilIface 0 hd (bits BinOp.and IntKind.i64 e.flag 4 != 0))) (w.heap.size + 1) 211 #[.pointer none, .pointer none, .slice none 0 0, .slice none 0 0, .slice none 0 0, .slice none 0 0, .nilIface, .nilIface, .nilIface, .pointer none, .string ⟨#[]⟩, .int .i64 0, .int .i64 0, .int .i64 0, .int .i64 0, .int .i64 0, .int .i64 0, .bool false] := ((Blk.newAt _ _ (by simp) _ _).alloc _).farRow (by omega) _
  have hP0 : Blk ((((w.alloc (.cells #[.int .i64 e.kind, .int .i64 e.op, .string e.text, .int .i64 e.flag, .int .i64 e.size] 26)).alloc (.cells #[.pointer none, .pointer none, .slice none 0 0, .slice none 0 0, .slice none 0 0, .slice none 0 0, .nilIface, .nilIface, .nilIface, .pointer none, .string ⟨#[]⟩, .int .i64 0, .int .i64 0, .int .i64 0, .int .i64 0, .int .i64 0, .int .i64 0, .bool false] 211)).alloc (.cells #[.pointer none, .pointer none, .slice none 0 0, .slice none 0 0, .slice none 0 0, .slice none 0 0, .nilIface, .nilIface, .nilIface, .pointer none, .string ⟨#[]⟩, .int .i64 0, .int .i64 0, .int .i64 0, .int .i64 0, .int .i64 0, .int .i64 0, .bool false] 211)).setRow (w.heap.size + 1 + 1) (fdCells none none .nilIface .nilIface .nilIface 0 hd (bits BinOp.and IntKind.i64 e.flag 4 != 0))) (w.heap.size + 1 + 1) 211 (fdCells none none .nilIface .nilIface .nilIface 0 hd (bits BinOp.and IntKind.i64 e.flag 4 != 0)) := hP00.out.setRow
  obtain ⟨W0, hW0⟩ : ∃ W0, ((((w.alloc (.cells #[.int .i64 e.kind, .int .i64 e.op, .string e.text, .int .i64 e.flag, .int .i64 e.size] 26)).alloc (.cells #[.pointer none, .pointer none, .slice none 0 0, .slice none 0 0, .slice none 0 0, .slice none 0 0, .nilIface, .nilIface, .nilIface, .pointer none, .string ⟨#[]⟩, .int .i64 0, .int .i64 0, .int .i64 0, .int .i64 0, .int .i64 0, .int .i64 0, .bool false] 211)).alloc (.cells #[.pointer none, .pointer none, .slice none 0 0, .slice none 0 0, .slice none 0 0, .slice none 0 0, .nilIface, .nilIface, .nilIface, .pointer none, .string ⟨#[]⟩, .int .i64 0, .int .i64 0, .int .i64 0, .int .i64 0, .int .i64 0, .int .i64 0, .bool false] 211)).setRow (w.heap.size + 1 + 1) (fdCells none none .nilIface .nilIface .nilIface 0 hd (bits BinOp.and IntKind.i64 e.flag 4 != 0))) = W0 := ⟨_, rfl⟩
  rw [hW0] at hG0 hb0 hQ0 hP0
  rw [hW0]
  clear hW0
  have n2 := hb0.cell 2
  have n3 := hb0.cell 3
  simp only [List.getElem?_toArray, List.getElem?_cons_zero, List.getElem?_cons_succ] at n2 n3
  go_wp2_with fail
  refine (str_any X e.text _ hG0.2).mono ?_
  rintro e2 w2 ⟨⟨gs, rfl⟩, hb2⟩
  have hG1 := hG0.then hb2
  have hQ1 := hQ0.below hb2 hQ0.lt
  have hP1 := hP0.below hb2 hP0.lt
  have hB1 := hb0.below hb2 hb0.lt
  have p15 := hP1.cell 15
  have pS := hP1.cell 6
  have f15 := hP1.frozen 15
  have fS := hP1.frozen 6
  have n1 := hB1.cell 3
  simp only [fdCells, List.getElem?_toArray, List.getElem?_cons_zero, List.getElem?_cons_succ] at p15 pS n1
  have hG := (hG1.set H.out (g := w.heap.size + 1 + 1) (i := 15) (by omega) (.int .i64 3)).set H.out (g := w.heap.size + 1 + 1) (i := 6) (by omega) (.iface 105 (.pointer (some ⟨gs, 0, none⟩)))
  have hQ := (hQ1.far (p := ⟨w.heap.size + 1 + 1, 15, none⟩) (by show w.heap.size + 1 ≠ w.heap.size + 1 + 1; omega) (.int .i64 3)).far (p := ⟨w.heap.size + 1 + 1, 6, none⟩) (by show w.heap.size + 1 ≠ w.heap.size + 1 + 1; omega) (.iface 105 (.pointer (some ⟨gs, 0, none⟩)))
  have hP : Blk ((w2.setCell ⟨w.heap.size + 1 + 1, 15, none⟩ (.int .i64 3)).setCell ⟨w.heap.size + 1 + 1, 6, none⟩ (.iface 105 (.pointer (some ⟨gs, 0, none⟩)))) (w.heap.size + 1 + 1) 211 (fdCells none none (.iface 105 (.pointer (some ⟨gs, 0, none⟩))) .nilIface .nilIface 3 hd (bits BinOp.and IntKind.i64 e.flag 4 != 0)) := by simpa [fdCells] using (hP1.set_ 15 (.int .i64 3)).set_ 6 (.iface 105 (.pointer (some ⟨gs, 0, none⟩)))
  have hNb := (hB1.far (p := ⟨w.heap.size + 1 + 1, 15, none⟩) (by show w.heap.size ≠ w.heap.size + 1 + 1; omega) (.int .i64 3)).far (p := ⟨w.heap.size + 1 + 1, 6, none⟩) (by show w.heap.size ≠ w.heap.size + 1 + 1; omega) (.iface 105 (.pointer (some ⟨gs, 0, none⟩)))
  have KF := Lib.hid (function_any X hok _ hG.2 m HN.out (some ⟨g, off, none⟩) c2 r a (hG.kids H.out HK.out) HR.out HA.out HM.out)
  have ne1 : (((r.length + 1 : Nat) : Int) == 0) = false := by simp; omega
  have u3 := hNb.cell 3
  simp only [List.getElem?_toArray, List.getElem?_cons_zero, List.getElem?_cons_succ] at u3
  go_wp2_with fail
  refine KF.out.mono ?_
  rintro e3 w3 ⟨⟨g5, t5, g6, rfl, hc5⟩, hgo3⟩
  have HG3 := Lib.hid (hG.trans hgo3)
  have HP := hgo3.blk hG.2 hP (by decide)
  have HQ := hgo3.blk hG.2 hQ (by decide)
  clear hgo3 hG hP hQ
  have a0 := HP.cell 0
  have a7 := HP.cell 7
  have fp7 := HP.frozen 7
  have fp0 := HP.frozen 0
  simp only [fdCells, List.getElem?_toArray, List.getElem?_cons_zero, List.getElem?_cons_succ] at a0 a7
  have HQ1 := Lib.hid ((HQ.far (p := ⟨w.heap.size + 1 + 1, 0, none⟩) (by show w.heap.size + 1 ≠ w.heap.size + 1 + 1; omega) (.pointer (some ⟨g5, 0, none⟩))).far (p := ⟨w.heap.size + 1 + 1, 7, none⟩) (by show w.heap.size + 1 ≠ w.heap.size + 1 + 1; omega) (.iface t5 (.pointer (some ⟨g6, 0, none⟩))))
  have HGs := Lib.hid ((HG3.out.set H.out (g := w.heap.size + 1 + 1) (i := 0) (by omega) (.pointer (some ⟨g5, 0, none⟩))).set H.out (g := w.heap.size + 1 + 1) (i := 7) (by omega) (.iface t5 (.pointer (some ⟨g6, 0, none⟩))))
  have HP1 : Hid (Blk ((w3.setCell ⟨w.heap.size + 1 + 1, 0, none⟩ (.pointer (some ⟨g5, 0, none⟩))).setCell ⟨w.heap.size + 1 + 1, 7, none⟩ (.iface t5 (.pointer (some ⟨g6, 0, none⟩)))) (w.heap.size + 1 + 1) 211 (fdCells (some ⟨g5, 0, none⟩) none (.iface 105 (.pointer (some ⟨gs, 0, none⟩))) (.iface t5 (.pointer (some ⟨g6, 0, none⟩))) .nilIface 3 hd (bits BinOp.and IntKind.i64 e.flag 4 != 0))) := Lib.hid (by simpa [fdCells] using (HP.set_ 0 (.pointer (some ⟨g5, 0, none⟩))).set_ 7 (.iface t5 (.pointer (some ⟨g6, 0, none⟩))))
  have HO := Lib.hid (fd_one (some ⟨g5, 0, none⟩) none (.iface 105 (.pointer (some ⟨gs, 0, none⟩))) (.iface t5 (.pointer (some ⟨g6, 0, none⟩))) .nilIface 3 hd (bits BinOp.and IntKind.i64 e.flag 4 != 0) (by unfold One; simp) (by unfold One; simp) (by unfold One; simp))
  clear HP HQ
  go_wp2_with (first | refine wpList_load_row rfl 211 (.tmp 9) rfl (w.heap.size + 1 + 1) rfl 211 _ (0, 0) _ HP1.out Try.underlying211 rfl size_fd ?_ | refine wpList_store_row rfl 211 (.tmp 6) (.tmp 95) rfl (w.heap.size + 1) _ rfl rfl 211 _ HQ1.out size_fd rfl HO.out ?_)
  refine bodyPost_ret (results_cell_row Try.results66 _ _ (w.heap.size + 1) 211 _ (0, 0) _ rfl HQ1.out.setRow Try.underlying211 rfl size_fd) rfl ⟨⟨_, _, _, _, _, _, _, _, rfl, by unfold One; simp, by unfold One; simp, by unfold One; simp⟩, HGs.out.setRow H.out (by omega) _⟩
set_option maxRecDepth 100000 in
set_option maxHeartbeats 6400000 in
theorem fieldExB (X : Cx) (e : ND) (w : World) (h : X.Inv w) (m : Nat) (hN : NodeA X m) (A2 : Option Addr) (c2 : Nat) (x : Nat) (a : Nat) (hk : KidsOK w X.n A2 c2 (x :: ([a])))
    (hx : Ex X.es x) (ha : Ex X.es a) (hm : ∀ k ∈ x :: ([a]), m ≤ k) (hop : 0 ≤ e.op ∧ e.op ≤ 2) (hc : bits BinOp.andNot IntKind.i64 e.flag 12 = 2) (q8 : (bits BinOp.and IntKind.i64 e.flag 8 == 0) = true) :
    Calls Try.prog 66 #[.pointer (some ⟨X.bB, 0, none⟩), .agg #[.int .i64 e.kind, .int .i64 e.op, .string e.text, .int .i64 e.flag, .int .i64 e.size], .slice A2 2 c2] w (FdPost X w) := by
  have q8n : (bits BinOp.and IntKind.i64 e.flag 8 != 0) = false := by rw [bne, q8]; rfl
  have KH := Lib.hid (fun w' => hides_any e.op w' hop)
  have H := Lib.hid h
  have HK := Lib.hid hk
  have HN := Lib.hid hN
  have HM := Lib.hid hm
  have HX0 := Lib.hid (h.go (Below.refl _ _))
  have hsl : 2 ≤ c2 := by have := hk.2.2.2; simp only [List.length_cons, List.length_nil] at this; omega
  obtain ⟨g, off, rfl, hgl, hc0, -⟩ := hk.cell (j := 0) (k := x) rfl
  simp only [Nat.add_zero] at hc0
  obtain ⟨xx, -, KX⟩ := hN x (hm x (by simp)) hx
  have KKX := Lib.hid KX
  clear KX hx
  obtain ⟨xa, -, KA⟩ := hN a (hm a (by simp)) ha
  have KKA := Lib.hid KA
  clear KA ha
  clear h hk hN hm hop
  go_enter Try.func66, Try.ntmps66
  go_wp2_with fail
  refine (KH.out _).mono ?_
  rintro e1 w1 ⟨⟨hd, rfl⟩, rfl⟩
  clear KH
  have hP00 := Lib.hid (show Blk (((w.alloc (.cells #[.int .i64 e.kind, .int .i64 e.op, .string e.text, .int .i64 e.flag, .int .i64 e.size] 26)).alloc (.cells #[.pointer none, .pointer none, .slice none 0 0, .slice none 0 0, .slice none 0 0, .slice none 0 0, .nilIface, .nilIface, .nilIface, .pointer none, .string ⟨#[]⟩, .int .i64 0, .int .i64 0, .int .i64 0, .int .i64 0, .int .i64 0, .int .i64 0, .bool false] 211)).alloc (.cells #[.pointer none, .pointer none, .slice none 0 0, .slice none 0 0, .slice none 0 0, .slice none 0 0, .nilIface, .nilIface, .nilIface, .pointer none, .string ⟨#[]⟩, .int .i64 0, .int .i64 0, .int .i64 0, .int .i64 0, .int .i64 0, .int .i64 0, .bool false] 211)) (w.heap.size + 1 + 1) 211 #[.pointer none, .pointer none, .slice none 0 0, .slice none 0 0, .slice none 0 0, .slice none 0 0, .nilIface, .nilIface, .nilIface, .pointer none, .string ⟨#[]⟩, .int .i64 0, .int .i64 0, .int .i64 0, .int .i64 0, .int .i64 0, .int .i64 0, .bool false] from Blk.newAt _ _ (by simp) _ _)
  have HO0 := Lib.hid (fd_one none none .nilIface .nilIface .nilIface 0 hd (bits BinOp.and IntKind.i64 e.flag 4 != 0) (.inl rfl) (.inl rfl) (.inl rfl))
  go_upto_region 3 with (refine wpList_store_row rfl 211 (.tmp 9) (.tmp 22) rfl (w.heap.size + 1 + 1) (fdCells none none .nilIface .nilIface .nilIface 0 hd (bits BinOp.and IntKind.i64 e.flag 4 != 0)) rfl rfl 211 _ hP00.out size_fd rfl HO0.out ?_)
  have hG0 := (((HX0.out.alloc (.cells #[.int .i64 e.kind, .int .i64 e.op, .string e.text, .int .i64 e.flag, .int .i64 e.size] 26)).alloc (.cells #[.pointer none, .pointer none, .slice none 0 0, .slice none 0 0, .slice none 0 0, .slice none 0 0, .nilIface, .nilIface, .nilIface, .pointer none, .string ⟨#[]⟩, .int .i64 0, .int .i64 0, .int .i64 0, .int .i64 0, .int .i64 0, .int .i64 0, .bool false] 211)).alloc (.cells #[.pointer none, .pointer none, .slice none 0 0, .slice none 0 0, .slice none 0 0, .slice none 0 0, .nilIface, .nilIface, .nilIface, .pointer none, .string ⟨#[]⟩, .int .i64 0, .int .i64 0, .int .i64 0, .int .i64 0, .int .i64 0, .int .i64 0, .bool false] 211)).setRow H.out (g := w.heap.size + 1 + 1) (by omega) (fdCells none none .nilIface .nilIface .nilIface 0 hd (bits BinOp.and IntKind.i64 e.flag 4 != 0))
  have hb0 : Blk ((((w.alloc (.cells #[.int .i64 e.kind, .int .i64 e.op, .string e.text, .int .i64 e.flag, .int .i64 e.size] 26)).alloc (.cells #[.pointer none, .pointer none, .slice none 0 0, .slice none 0 0, .slice none 0 0, .slice none 0 0, .nilIface, .nilIface, .nilIface, .pointer none, .string ⟨#[]⟩, .int .i64 0, .int .i64 0, .int .i64 0, .int .i64 0, .int .i64 0, .int .i64 0, .bool false] 211)).alloc (.cells #[.pointer none, .pointer none, .slice none 0 0, .slice none 0 0, .slice none 0 0, .slice none 0 0, .nilIface, .nilIface, .nilIface, .pointer none, .string ⟨#[]⟩, .int .i64 0, .int .i64 0, .int .i64 0, .int .i64 0, .int .i64 0, .int .i64 0, .bool false] 211)).setRow (w.heap.size + 1 + 1) (fdCells none none .nilIface .nilIface .nilIface 0 hd (bits BinOp.and IntKind.i64 e.flag 4 != 0))) w.heap.size 26 #[.int .i64 e.kind, .int .i64 e.op, .string e.text, .int .i64 e.flag, .int .i64 e.size] := (((Blk.new _ _ _).alloc _).alloc _).farRow (by omega) _
  have hQ0 : Blk ((((w.alloc (.cells #[.int .i64 e.kind, .int .i64 e.op, .string e.text, .int .i64 e.flag, .int .i64 e.size] 26)).alloc (.cells #[.pointer none, .pointer none, .slice none 0 0, .slice none 0 0, .slice none 0 0, .slice none 0 0, .nilIface, .nilIface, .nilIface, .pointer none, .string ⟨#[]⟩, .int .i64 0, .int .i64 0, .int .i64 0, .int .i64 0, .int .i64 0, .int .i64 0, .bool false] 211)).alloc (.cells #[.pointer none, .pointer none, .slice none 0 0, .slice none 0 0, .slice none 0 0, .slice none 0 0, .nilIface, .nilIface, .nilIface, .pointer none, .string ⟨#[]⟩, .int .i64 0, .int .i64 0, .int .i64 0, .int .i64 0, .int .i64 0, .int .i64 0, .bool false] 211)).setRow (w.heap.size + 1 + 1) (fdCells none none .nilIface .nilIface .nilIface 0 hd (bits BinOp.and IntKind.i64 e.flag 4 != 0))) (w.heap.size + 1) 211 #[.pointer none, .pointer none, .slice none 0 0, .slice none 0 0, .slice none 0 0, .slice none 0 0, .nilIface, .nilIface, .nilIface, .pointer none, .string ⟨#[]⟩, .int .i64 0, .int .i64 0, .int .i64 0, .int .i64 0, .int .i64 0, .int .i64 0, .bool false] := ((Blk.newAt _ _ (by simp) _ _).alloc _).farRow (by omega) _
  have hP0 : Blk ((((w.alloc (.cells #[.int .i64 e.kind, .int .i64 e.op, .string e.text, .int .i64 e.flag, .int .i64 e.size] 26)).alloc (.cells #[.pointer none, .pointer none, .slice none 0 0, .slice none 0 0, .slice none 0 0, .slice none 0 0, .nilIface, .nilIface, .nilIface, .pointer none, .string ⟨#[]⟩, .int .i64 0, .int .i64 0, .int .i64 0, .int .i64 0, .int .i64 0, .int .i64 0, .bool false] 211)).alloc (.cells #[.pointer none, .pointer none, .slice none 0 0, .slice none 0 0, .slice none 0 0, .slice none 0 0, .nilIface, .nilIface, .nilIface, .pointer none, .string ⟨#[]⟩, .int .i64 0, .int .i64 0, .int .i64 0, .int .i64 0, .int .i64 0, .int .i64 0, .bool false] 211)).setRow (w.heap.size + 1 + 1) (fdCells none none .nilIface .nilIface .nilIface 0 hd (bits BinOp.and IntKind.i64 e.flag 4 != 0))) (w.heap.size + 1 + 1) 211 (fdCells none none .nilIface .nilIface .nilIface 0 hd (bits BinOp.and IntKind.i64 e.flag 4 != 0)) := hP00.out.setRow
  obtain ⟨W0, hW0⟩ : ∃ W0, ((((w.alloc (.cells #[.int .i64 e.kind, .int .i64 e.op, .string e.text, .int .i64 e.flag, .int .i64 e.size] 26)).alloc (.cells #[.pointer none, .pointer none, .slice none 0 0, .slice none 0 0, .slice none 0 0, .slice none 0 0, .nilIface, .nilIface, .nilIface, .pointer none, .string ⟨#[]⟩, .int .i64 0, .int .i64 0, .int .i64 0, .int .i64 0, .int .i64 0, .int .i64 0, .bool false] 211)).alloc (.cells #[.pointer none, .pointer none, .slice none 0 0, .slice none 0 0, .slice none 0 0, .slice none 0 0, .nilIface, .nilIface, .nilIface, .pointer none, .string ⟨#[]⟩, .int .i64 0, .int .i64 0, .int .i64 0, .int .i64 0, .int .i64 0, .int .i64 0, .bool false] 211)).setRow (w.heap.size + 1 + 1) (fdCells none none .nilIface .nilIface .nilIface 0 hd (bits BinOp.and IntKind.i64 e.flag 4 != 0))) = W0 := ⟨_, rfl⟩
  rw [hW0] at hG0 hb0 hQ0 hP0
  rw [hW0]
  clear hW0
  have n2 := hb0.cell 2
  have n3 := hb0.cell 3
  simp only [List.getElem?_toArray, List.getElem?_cons_zero, List.getElem?_cons_succ] at n2 n3
  have hc1 := hG0.cellK H.out HK.out (j := 0) (k := x) rfl
  simp only [Nat.add_zero] at hc1
  go_wp2_with fail
  refine (KKX.out _ hG0.2).mono ?_
  rintro e2 w2 ⟨⟨gs, rfl, -⟩, hgo2⟩
  generalize tyOf xx.kind = tx at *
  have hG1 := hG0.trans hgo2
  have hQ1 := hgo2.blk hG0.2 hQ0 (by decide)
  have hP1 := hgo2.blk hG0.2 hP0 (by decide)
  have hB1 := hgo2.blk hG0.2 hb0 (by decide)
  have p15 := hP1.cell 15
  have pS := hP1.cell 6
  have f15 := hP1.frozen 15
  have fS := hP1.frozen 6
  have n1 := hB1.cell 3
  simp only [fdCells, List.getElem?_toArray, List.getElem?_cons_zero, List.getElem?_cons_succ] at p15 pS n1
  have hG := (hG1.set H.out (g := w.heap.size + 1 + 1) (i := 15) (by omega) (.int .i64 2)).set H.out (g := w.heap.size + 1 + 1) (i := 6) (by omega) (.iface tx (.pointer (some ⟨gs, 0, none⟩)))
  have hQ := (hQ1.far (p := ⟨w.heap.size + 1 + 1, 15, none⟩) (by show w.heap.size + 1 ≠ w.heap.size + 1 + 1; omega) (.int .i64 2)).far (p := ⟨w.heap.size + 1 + 1, 6, none⟩) (by show w.heap.size + 1 ≠ w.heap.size + 1 + 1; omega) (.iface tx (.pointer (some ⟨gs, 0, none⟩)))
  have hP : Blk ((w2.setCell ⟨w.heap.size + 1 + 1, 15, none⟩ (.int .i64 2)).setCell ⟨w.heap.size + 1 + 1, 6, none⟩ (.iface tx (.pointer (some ⟨gs, 0, none⟩)))) (w.heap.size + 1 + 1) 211 (fdCells none none (.iface tx (.pointer (some ⟨gs, 0, none⟩))) .nilIface .nilIface 2 hd (bits BinOp.and IntKind.i64 e.flag 4 != 0)) := by simpa [fdCells] using (hP1.set_ 15 (.int .i64 2)).set_ 6 (.iface tx (.pointer (some ⟨gs, 0, none⟩)))
  have hNb := (hB1.far (p := ⟨w.heap.size + 1 + 1, 15, none⟩) (by show w.heap.size ≠ w.heap.size + 1 + 1; omega) (.int .i64 2)).far (p := ⟨w.heap.size + 1 + 1, 6, none⟩) (by show w.heap.size ≠ w.heap.size + 1 + 1; omega) (.iface tx (.pointer (some ⟨gs, 0, none⟩)))
  have hca := hG.cellK H.out HK.out (j := 1) (k := a) rfl
  have u3 := hNb.cell 3
  simp only [List.getElem?_toArray, List.getElem?_cons_zero, List.getElem?_cons_succ] at u3
  go_wp2_with fail
  refine (KKA.out _ hG.2).mono ?_
  rintro e3 w3 ⟨⟨g5, rfl, -⟩, hgo3⟩
  generalize tyOf xa.kind = t5 at *
  have HG3 := Lib.hid (hG.trans hgo3)
  have HP := hgo3.blk hG.2 hP (by decide)
  have HQ := hgo3.blk hG.2 hQ (by decide)
  clear hgo3 hG hP hQ
  have a0 := HP.cell 0
  have a7 := HP.cell 7
  have fp7 := HP.frozen 7
  have fp0 := HP.frozen 0
  simp only [fdCells, List.getElem?_toArray, List.getElem?_cons_zero, List.getElem?_cons_succ] at a0 a7
  have HQ1 := Lib.hid (HQ.far (p := ⟨w.heap.size + 1 + 1, 7, none⟩) (by show w.heap.size + 1 ≠ w.heap.size + 1 + 1; omega) (.iface t5 (.pointer (some ⟨g5, 0, none⟩))))
  have HGs := Lib.hid (HG3.out.set H.out (g := w.heap.size + 1 + 1) (i := 7) (by omega) (.iface t5 (.pointer (some ⟨g5, 0, none⟩))))
  have HP1 : Hid (Blk (w3.setCell ⟨w.heap.size + 1 + 1, 7, none⟩ (.iface t5 (.pointer (some ⟨g5, 0, none⟩)))) (w.heap.size + 1 + 1) 211 (fdCells none none (.iface tx (.pointer (some ⟨gs, 0, none⟩))) (.iface t5 (.pointer (some ⟨g5, 0, none⟩))) .nilIface 2 hd (bits BinOp.and IntKind.i64 e.flag 4 != 0))) := Lib.hid (by simpa [fdCells] using HP.set_ 7 (.iface t5 (.pointer (some ⟨g5, 0, none⟩))))
  have HO := Lib.hid (fd_one none none (.iface tx (.pointer (some ⟨gs, 0, none⟩))) (.iface t5 (.pointer (some ⟨g5, 0, none⟩))) .nilIface 2 hd (bits BinOp.and IntKind.i64 e.flag 4 != 0) (by unfold One; simp) (by unfold One; simp) (by unfold One; simp))
  clear HP HQ
  go_wp2_with (first | refine wpList_load_row rfl 211 (.tmp 9) rfl (w.heap.size + 1 + 1) rfl 211 _ (0, 0) _ HP1.out Try.underlying211 rfl size_fd ?_ | refine wpList_store_row rfl 211 (.tmp 6) (.tmp 95) rfl (w.heap.size + 1) _ rfl rfl 211 _ HQ1.out size_fd rfl HO.out ?_)
  refine bodyPost_ret (results_cell_row Try.results66 _ _ (w.heap.size + 1) 211 _ (0, 0) _ rfl HQ1.out.setRow Try.underlying211 rfl size_fd) rfl ⟨⟨_, _, _, _, _, _, _, _, rfl, by unfold One; simp, by unfold One; simp, by unfold One; simp⟩, HGs.out.setRow H.out (by omega) _⟩
set_option maxRecDepth 100000 in
set_option maxHeartbeats 6400000 in
theorem fieldExM (X : Cx) (hok : X.OK) (e : ND) (w : World) (h : X.Inv w) (m : Nat) (hN : NodeA X m) (A2 : Option Addr) (c2 : Nat) (x : Nat) (r : List Nat) (a : Nat) (hk : KidsOK w X.n A2 c2 (x :: (r ++ [a])))
    (hx : Ex X.es x) (hr : ∀ k ∈ r, Kd X.es [33] k) (ha : Ex X.es a) (hm : ∀ k ∈ x :: (r ++ [a]), m ≤ k) (hop : 0 ≤ e.op ∧ e.op ≤ 2) (hc : bits BinOp.andNot IntKind.i64 e.flag 12 = 2) (q8 : (bits BinOp.and IntKind.i64 e.flag 8 == 0) = false) :
    Calls Try.prog 66 #[.pointer (some ⟨X.bB, 0, none⟩), .agg #[.int .i64 e.kind, .int .i64 e.op, .string e.text, .int .i64 e.flag, .int .i64 e.size], .slice A2 (r.length + 2 : Nat) c2] w (FdPost X w) := by
  have q8n : (bits BinOp.and IntKind.i64 e.flag 8 != 0) = true := by rw [bne, q8]; rfl
  have KH := Lib.hid (fun w' => hides_any e.op w' hop)
  have H := Lib.hid h
  have HK := Lib.hid hk
  have HN := Lib.hid hN
  have HM := Lib.hid hm
  have HX0 := Lib.hid (h.go (Below.refl _ _))
  have HR := Lib.hid hr
  have hrl : r.length + 1 ≤ 1000000 := by have := hk.2.2.1; simp only [List.length_cons, List.length_append, List.length_nil] at this; omega
  have hsl : (r.length + 2 : Nat) ≤ c2 := by have := hk.2.2.2; simp only [List.length_cons, List.length_append, List.length_nil] at this; omega
  obtain ⟨g, off, rfl, hgl, hc0, -⟩ := hk.cell (j := 0) (k := x) rfl
  simp only [Nat.add_zero] at hc0
  obtain ⟨xx, -, KX⟩ := hN x (hm x (by simp)) hx
  have KKX := Lib.hid KX
  clear KX hx
  have HA := Lib.hid ha
  clear hr ha
  clear h hk hN hm hop
  go_enter Try.func66, Try.ntmps66
  go_wp2_with fail
  refine (KH.out _).mono ?_
  rintro e1 w1 ⟨⟨hd, rfl⟩, rfl⟩
  clear KH
  have hP00 := Lib.hid (show Blk (((w.alloc (.cells #[.int .i64 e.kind, .int .i64 e.op, .string e.text, .int .i64 e.flag, .int .i64 e.size] 26)).alloc (.cells #[.pointer none, .pointer none, .slice none 0 0, .slice none 0 0, .slice none 0 0, .slice none 0 0, .nilIface, .nilIface, .nilIface, .pointer none, .string ⟨#[]⟩, .int .i64 0, .int .i64 0, .int .i64 0, .int .i64 0, .int .i64 0, .int .i64 0, .bool false] 211)).alloc (.cells #[.pointer none, .pointer none, .slice none 0 0, .slice none 0 0, .slice none 0 0, .slice none 0 0, .nilIface, .nilIface, .nilIface, .pointer none, .string ⟨#[]⟩, .int .i64 0, .int .i64 0, .int .i64 0, .int .i64 0, .int .i64 0, .int .i64 0, .bool false] 211)) (w.heap.size + 1 + 1) 211 #[.pointer none, .pointer none, .slice none 0 0, .slice none 0 0, .slice none 0 0, .slice none 0 0, .nilIface, .nilIface, .nilIface, .pointer none, .string ⟨#[]⟩, .int .i64 0, .int .i64 0, .int .i64 0, .int .i64 0, .int .i64 0, .int .i64 0, .bool false] from Blk.newAt _ _ (by simp) _ _)
  have HO0 := Lib.hid (fd_one none none .nilIface .nilIface .nilIface 0 hd (bits BinOp.and IntKind.i64 e.flag 4 != 0) (.inl rfl) (.inl rfl) (.inl rfl))
  go_upto_region 3 with (refine wpList_store_row rfl 211 (.tmp 9) (.tmp 22) rfl (w.heap.size + 1 + 1) (fdCells none none .nilIface .nilIface .nilIface 0 hd (bits BinOp.and IntKind.i64 e.flag 4 != 0)) rfl rfl 211 _ hP00.out size_fd rfl HO0.out ?_)
  have hG0 := (((HX0.out.alloc (.cells #[.int .i64 e.kind, .int .i64 e.op, .string e.text, .int .i64 e.flag, .int .i64 e.size] 26)).alloc (.cells #[.pointer none, .pointer none, .slice none 0 0, .slice none 0 0, .slice none 0 0, .slice none 0 0, .nilIface, .nilIface, .nilIface, .pointer none, .string ⟨#[]⟩, .int .i64 0, .int .i64 0, .int .i64 0, .int .i64 0, .int .i64 0, .int .i64 0, .bool false] 211)).alloc (.cells #[.pointer none, .pointer none, .slice none 0 0, .slice none 0 0, .slice none 0 0, .slice none 0 0, .nilIface, .nilIface, .nilIface, .pointer none, .string ⟨#[]⟩, .int .i64 0, .int .i64 0, .int .i64 0, .int .i64 0, .int .i64 0, .int .i64 0, .bool false] 211)).setRow H.out (g := w.heap.size + 1 + 1) (by omega) (fdCells none none .nilIface .nilIface .nilIface 0 hd (bits BinOp.and IntKind.i64 e.flag 4 != 0))
  have hb0 : Blk ((((w.alloc (.cells #[.int .i64 e.kind, .int .i64 e.op, .string e.text, .int .i64 e.flag, .int .i64 e.size] 26)).alloc (.cells #[.pointer none, .pointer none, .slice none 0 0, .slice none 0 0, .slice none 0 0, .slice none 0 0, .nilIface, .nilIface, .nilIface, .pointer none, .string ⟨#[]⟩, .int .i64 0, .int .i64 0, .int .i64 0, .int .i64 0, .int .i64 0, .int .i64 0, .bool false] 211)).alloc (.cells #[.pointer none, .pointer none, .slice none 0 0, .slice none 0 0, .slice none 0 0, .slice none 0 0, .nilIface, .nilIface, .nilIface, .pointer none, .string ⟨#[]⟩, .int .i64 0, .int .i64 0, .int .i64 0, .int .i64 0, .int .i64 0, .int .i64 0, .bool false] 211)).setRow (w.heap.size + 1 + 1) (fdCells none none .nilIface .nilIface .nilIface 0 hd (bits BinOp.and IntKind.i64 e.flag 4 != 0))) w.heap.size 26 #[.int .i64 e.kind, .int .i64 e.op, .string e.text, .int .i64 e.flag, .int .i64 e.size] := (((Blk.new _ _ _).alloc _).alloc _).farRow (by omega) _
  have hQ0 : Blk ((((w.alloc (.cells #[.int .i64 e.kind, .int .i64 e.op, .string e.text, .int .i64 e.flag, .int .i64 e.size] 26)).alloc (.cells #[.pointer none, .pointer none, .slice none 0 0, .slice none 0 0, .slice none 0 0, .slice none 0 0, .nilIface, .nilIface, .nilIface, .pointer none, .string ⟨#[]⟩, .int .i64 0, .int .i64 0, .int .i64 0, .int .i64 0, .int .i64 0, .int .i64 0, .bool false] 211)).alloc (.cells #[.pointer none, .pointer none, .slice none 0 0, .slice none 0 0, .slice none 0 0, .slice none 0 0, .nilIface, .nilIface, .nilIface, .pointer none, .string ⟨#[]⟩, .int .i64 0, .int .i64 0, .int .i64 0, .int .i64 0, .int .i64 0, .int .i64 0, .bool false] 211)).setRow (w.heap.size + 1 + 1) (fdCells none none .nilIface .nilIface .nilIface 0 hd (bits BinOp.and IntKind.i64 e.flag 4 != 0))) (w.heap.size + 1) 211 #[.pointer none, .pointer none, .slice none 0 0, .slice none 0 0, .slice none 0 0, .slice none 0 0, .nilIface, .nilIface, .nilIface, .pointer none, .string ⟨#[]⟩, .int .i64 0, .int .i64 0, .int .i64 0, .int .i64 0, .int .i64 0, .int .i64 0, .bool false] := ((Blk.newAt _ _ (by simp) _ _).alloc _).farRow (by omega) _
  have hP0 : Blk ((((w.alloc (.cells #[.int .i64 e.kind, .int .i64 e.op, .string e.text, .int .i64 e.flag, .int .i64 e.size] 26)).alloc (.cells #[.pointer none, .pointer none, .slice none 0 0, .slice none 0 0, .slice none 0 0, .slice none 0 0, .nilIface, .nilIface, .nilIface, .pointer none, .string ⟨#[]⟩, .int .i64 0, .int .i64 0, .int .i64 0, .int .i64 0, .int .i64 0, .int .i64 0, .bool false] 211)).alloc (.cells #[.pointer none, .pointer none, .slice none 0 0, .slice none 0 0, .slice none 0 0, .slice none 0 0, .nilIface, .nilIface, .nilIface, .pointer none, .string ⟨#[]⟩, .int .i64 0, .int .i64 0, .int .i64 0, .int .i64 0, .int .i64 0, .int .i64 0, .bool false] 211)).setRow (w.heap.size + 1 + 1) (fdCells none none .nilIface .nilIface .nilIface 0 hd (bits BinOp.and IntKind.i64 e.flag 4 != 0))) (w.heap.size + 1 + 1) 211 (fdCells none none .nilIface .nilIface .nilIface 0 hd (bits BinOp.and IntKind.i64 e.flag 4 != 0)) := hP00.out.setRow
  obtain ⟨W0, hW0⟩ : ∃ W0, ((((w.alloc (.cells #[.int .i64 e.kind, .int .i64 e.op, .string e.text, .int .i64 e.flag, .int .i64 e.size] 26)).alloc (.cells #[.pointer none, .pointer none, .slice none 0 0, .slice none 0 0, .slice none 0 0, .slice none 0 0, .nilIface, .nilIface, .nilIface, .pointer none, .string ⟨#[]⟩, .int .i64 0, .int .i64 0, .int .i64 0, .int .i64 0, .int .i64 0, .int .i64 0, .bool false] 211)).alloc (.cells #[.pointer none, .pointer none, .slice none 0 0, .slice none 0 0, .slice none 0 0, .slice none 0 0, .nilIface, .nilIface, .nilIface, .pointer none, .string ⟨#[]⟩, .int .i64 0, .int .i64 0, .int .i64 0, .int .i64 0, .int .i64 0, .int .i64 0, .bool false] 211)).setRow (w.heap.size + 1 + 1) (fdCells none none .nilIface .nilIface .nilIface 0 hd (bits BinOp.and IntKind.i64 e.flag 4 != 0))) = W0 := ⟨_, rfl⟩
  rw [hW0] at hG0 hb0 hQ0 hP0
  rw [hW0]
  clear hW0
  have n2 := hb0.cell 2
  have n3 := hb0.cell 3
  simp only [List.getElem?_toArray, List.getElem?_cons_zero, List.getElem?_cons_succ] at n2 n3
  have hc1 := hG0.cellK H.out HK.out (j := 0) (k := x) rfl
  simp only [Nat.add_zero] at hc1
  go_wp2_with fail
  refine (KKX.out _ hG0.2).mono ?_
  rintro e2 w2 ⟨⟨gs, rfl, -⟩, hgo2⟩
  generalize tyOf xx.kind = tx at *
  have hG1 := hG0.trans hgo2
  have hQ1 := hgo2.blk hG0.2 hQ0 (by decide)
  have hP1 := hgo2.blk hG0.2 hP0 (by decide)
  have hB1 := hgo2.blk hG0.2 hb0 (by decide)
  have p15 := hP1.cell 15
  have pS := hP1.cell 6
  have f15 := hP1.frozen 15
  have fS := hP1.frozen 6
  have n1 := hB1.cell 3
  simp only [fdCells, List.getElem?_toArray, List.getElem?_cons_zero, List.getElem?_cons_succ] at p15 pS n1
  have hG := (hG1.set H.out (g := w.heap.size + 1 + 1) (i := 15) (by omega) (.int .i64 2)).set H.out (g := w.heap.size + 1 + 1) (i := 6) (by omega) (.iface tx (.pointer (some ⟨gs, 0, none⟩)))
  have hQ := (hQ1.far (p := ⟨w.heap.size + 1 + 1, 15, none⟩) (by show w.heap.size + 1 ≠ w.heap.size + 1 + 1; omega) (.int .i64 2)).far (p := ⟨w.heap.size + 1 + 1, 6, none⟩) (by show w.heap.size + 1 ≠ w.heap.size + 1 + 1; omega) (.iface tx (.pointer (some ⟨gs, 0, none⟩)))
  have hP : Blk ((w2.setCell ⟨w.heap.size + 1 + 1, 15, none⟩ (.int .i64 2)).setCell ⟨w.heap.size + 1 + 1, 6, none⟩ (.iface tx (.pointer (some ⟨gs, 0, none⟩)))) (w.heap.size + 1 + 1) 211 (fdCells none none (.iface tx (.pointer (some ⟨gs, 0, none⟩))) .nilIface .nilIface 2 hd (bits BinOp.and IntKind.i64 e.flag 4 != 0)) := by simpa [fdCells] using (hP1.set_ 15 (.int .i64 2)).set_ 6 (.iface tx (.pointer (some ⟨gs, 0, none⟩)))
  have hNb := (hB1.far (p := ⟨w.heap.size + 1 + 1, 15, none⟩) (by show w.heap.size ≠ w.heap.size + 1 + 1; omega) (.int .i64 2)).far (p := ⟨w.heap.size + 1 + 1, 6, none⟩) (by show w.heap.size ≠ w.heap.size + 1 + 1; omega) (.iface tx (.pointer (some ⟨gs, 0, none⟩)))
  have KF := Lib.hid (function_any X hok _ hG.2 m HN.out (some ⟨g, off + 1, none⟩) (c2 - 1) r a (hG.kids H.out HK.out).tail HR.out HA.out (fun k hk => HM.out k (List.mem_cons_of_mem _ hk)))
  have ne1 : (((r.length + 1 : Nat) : Int) == 0) = false := by simp; omega
  have u3 := hNb.cell 3
  simp only [List.getElem?_toArray, List.getElem?_cons_zero, List.getElem?_cons_succ] at u3
  go_wp2_with fail
  refine KF.out.mono ?_
  rintro e3 w3 ⟨⟨g5, t5, g6, rfl, hc5⟩, hgo3⟩
  have HG3 := Lib.hid (hG.trans hgo3)
  have HP := hgo3.blk hG.2 hP (by decide)
  have HQ := hgo3.blk hG.2 hQ (by decide)
  clear hgo3 hG hP hQ
  have a0 := HP.cell 0
  have a7 := HP.cell 7
  have fp7 := HP.frozen 7
  have fp0 := HP.frozen 0
  simp only [fdCells, List.getElem?_toArray, List.getElem?_cons_zero, List.getElem?_cons_succ] at a0 a7
  have HQ1 := Lib.hid ((HQ.far (p := ⟨w.heap.size + 1 + 1, 0, none⟩) (by show w.heap.size + 1 ≠ w.heap.size + 1 + 1; omega) (.pointer (some ⟨g5, 0, none⟩))).far (p := ⟨w.heap.size + 1 + 1, 7, none⟩) (by show w.heap.size + 1 ≠ w.heap.size + 1 + 1; omega) (.iface t5 (.pointer (some ⟨g6, 0, none⟩))))
  have HGs := Lib.hid ((HG3.out.set H.out (g := w.heap.size + 1 + 1) (i := 0) (by omega) (.pointer (some ⟨g5, 0, none⟩))).set H.out (g := w.heap.size + 1 + 1) (i := 7) (by omega) (.iface t5 (.pointer (some ⟨g6, 0, none⟩))))
  have HP1 : Hid (Blk ((w3.setCell ⟨w.heap.size + 1 + 1, 0, none⟩ (.pointer (some ⟨g5, 0, none⟩))).setCell ⟨w.heap.size + 1 + 1, 7, none⟩ (.iface t5 (.pointer (some ⟨g6, 0, none⟩)))) (w.heap.size + 1 + 1) 211 (fdCells (some ⟨g5, 0, none⟩) none (.iface tx (.pointer (some ⟨gs, 0, none⟩))) (.iface t5 (.pointer (some ⟨g6, 0, none⟩))) .nilIface 2 hd (bits BinOp.and IntKind.i64 e.flag 4 != 0))) := Lib.hid (by simpa [fdCells] using (HP.set_ 0 (.pointer (some ⟨g5, 0, none⟩))).set_ 7 (.iface t5 (.pointer (some ⟨g6, 0, none⟩))))
  have HO := Lib.hid (fd_one (some ⟨g5, 0, none⟩) none (.iface tx (.pointer (some ⟨gs, 0, none⟩))) (.iface t5 (.pointer (some ⟨g6, 0, none⟩))) .nilIface 2 hd (bits BinOp.and IntKind.i64 e.flag 4 != 0) (by unfold One; simp) (by unfold One; simp) (by unfold One; simp))
  clear HP HQ
  go_wp2_with (first | refine wpList_load_row rfl 211 (.tmp 9) rfl (w.heap.size + 1 + 1) rfl 211 _ (0, 0) _ HP1.out Try.underlying211 rfl size_fd ?_ | refine wpList_store_row rfl 211 (.tmp 6) (.tmp 95) rfl (w.heap.size + 1) _ rfl rfl 211 _ HQ1.out size_fd rfl HO.out ?_)
  refine bodyPost_ret (results_cell_row Try.results66 _ _ (w.heap.size + 1) 211 _ (0, 0) _ rfl HQ1.out.setRow Try.underlying211 rfl size_fd) rfl ⟨⟨_, _, _, _, _, _, _, _, rfl, by unfold One; simp, by unfold One; simp, by unfold One; simp⟩, HGs.out.setRow H.out (by omega) _⟩
end Go.Proofs.Ytdhhdnopilfifaa
