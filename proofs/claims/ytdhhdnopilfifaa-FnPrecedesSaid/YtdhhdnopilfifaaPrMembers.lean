/-
  The builder: members. (Printed by wip/gen_members.py.)
-/
import Derived.Test.YtdhhdnopilfifaaPrField
namespace Go.Proofs.Ytdhhdnopilfifaa
open Go.RowKit

theorem field_any (X : Cx) (hok : X.OK) (e : ND) (w : World) (h : X.Inv w) (m : Nat) (hN : NodeA X m) (A2 : Option Addr) (c2 : Nat) (l : List Nat) (hk : KidsOK w X.n A2 c2 l) (hs : P35 X.es e.flag l) (hf : FlagF e.flag) (hop : 0 ≤ e.op ∧ e.op ≤ 2) (hm : ∀ k ∈ l, m ≤ k) :
    Calls Try.prog 66 #[.pointer (some ⟨X.bB, 0, none⟩), .agg #[.int .i64 e.kind, .int .i64 e.op, .string e.text, .int .i64 e.flag, .int .i64 e.size], .slice A2 l.length c2] w (FdPost X w) := by
  obtain ⟨q, r, a, rfl, h1, h2, h3, h4, h5⟩ := hs
  have zl : (r ++ [a]).length = r.length + 1 := by simp
  rcases hf with f | f | f | f | f | f | f | f | f <;> rw [f] at h1 h2 h3
  · obtain rfl := h2 rfl
    obtain rfl := h3 (by decide)
    exact fieldIdB X e w h m hN A2 c2 a (by simpa using hk) h5 (by simpa using hm) hop (by rw [f]; decide) (by rw [f]; decide)
  · obtain rfl := h2 rfl
    obtain rfl := h3 (by decide)
    exact fieldStrB X e w h m hN A2 c2 a (by simpa using hk) h5 (by simpa using hm) hop (by rw [f]; decide) (by rw [f]; decide)
  · obtain ⟨x, rfl, hx⟩ := h1 rfl
    obtain rfl := h3 (by decide)
    exact fieldExB X e w h m hN A2 c2 x a (by simpa using hk) hx h5 (by simpa using hm) hop (by rw [f]; decide) (by rw [f]; decide)
  · obtain rfl := h2 rfl
    obtain rfl := h3 (by decide)
    exact fieldIdB X e w h m hN A2 c2 a (by simpa using hk) h5 (by simpa using hm) hop (by rw [f]; decide) (by rw [f]; decide)
  · obtain rfl := h2 rfl
    obtain rfl := h3 (by decide)
    exact fieldStrB X e w h m hN A2 c2 a (by simpa using hk) h5 (by simpa using hm) hop (by rw [f]; decide) (by rw [f]; decide)
  · obtain ⟨x, rfl, hx⟩ := h1 rfl
    obtain rfl := h3 (by decide)
    exact fieldExB X e w h m hN A2 c2 x a (by simpa using hk) hx h5 (by simpa using hm) hop (by rw [f]; decide) (by rw [f]; decide)
  · obtain rfl := h2 rfl
    have zz : ([] ++ (r ++ [a])).length = r.length + 1 := by simp
    rw [zz]
    exact fieldIdM X hok e w h m hN A2 c2 r a (by simpa using hk) h4 h5 (by simpa using hm) hop (by rw [f]; decide) (by rw [f]; decide)
  · obtain rfl := h2 rfl
    have zz : ([] ++ (r ++ [a])).length = r.length + 1 := by simp
    rw [zz]
    exact fieldStrM X hok e w h m hN A2 c2 r a (by simpa using hk) h4 h5 (by simpa using hm) hop (by rw [f]; decide) (by rw [f]; decide)
  · obtain ⟨x, rfl, hx⟩ := h1 rfl
    have zz : ([x] ++ (r ++ [a])).length = r.length + 2 := by simp
    rw [zz]
    exact fieldExM X hok e w h m hN A2 c2 x r a (by simpa using hk) hx h4 h5 (by simpa using hm) hop (by rw [f]; decide) (by rw [f]; decide)
theorem heap_newAt (w : World) (k : Nat) (hk : w.heap.size = k) (o : Obj) : (w.alloc o).heap[k]? = some o := hk ▸ heap_alloc_new w o
theorem size_bd : (Try.prog.info? 164).map (·.size) = some 12 := by kernel_rfl
theorem grownBy_setRow (w : World) (g : Nat) (cs : Array Value) : w.grownBy (w.setRow g cs) (some g) :=
  ⟨rfl, rfl, rfl, by simp, fun i _ hi => setRow_other w g i cs (fun e => hi (by rw [e]))⟩
theorem own_setRow {w : World} {base e size n : Nat} {v : Value} {xs : List Value} {g : Nat} {t : TypeId} {cs0 : Array Value} (h : w.ownsRow base e size v n xs) (hb : Blk w g t cs0) (hne : e ≠ t) (cs : Array Value) : (w.setRow g cs).ownsRow base e size v n xs :=
  h.kept (grownBy_setRow w g cs) (.inr (own_blk_ne h hb hne))
theorem one_list {cs : Array Value} (h : cs.all (·.oneCell') = true) : ∀ u ∈ cs.toList, u.oneCell' = true := fun u hu => (Array.all_eq_true_iff_forall_mem.1 h) u (by simpa using hu)
set_option maxRecDepth 100000 in
set_option maxHeartbeats 6400000 in
theorem members_any (X : Cx) (hok : X.OK) (w : World) (h : X.Inv w) (m : Nat) (hN : NodeA X m) (A2 : Option Addr) (cq : Nat) (ks : List Nat) (hk : KidsOK w X.n A2 cq ks) (hr : ∀ k ∈ ks, Kd X.es [35, 36, 37] k) (hm : ∀ k ∈ ks, m ≤ k) :
    Calls Try.prog 63 #[.pointer (some ⟨X.bB, 0, none⟩), .slice A2 ks.length cq] w (SlPost X w) := by
  obtain ⟨hl1, hl2, hl3⟩ := h.lts
  have H := Lib.hid h
  have HK := Lib.hid hk
  have HN := Lib.hid hN
  have HR := Lib.hid hr
  have HM := Lib.hid hm
  have hll := hk.2.2.1
  obtain ⟨i0, hi, hz, hsz, hbb⟩ := info_parts info_fd
  clear h hk hN hr hm
  go_enter Try.func63, Try.ntmps63
  go_wp2_with fail
  go_loopw [5, 15] (fun u t wr => ∃ j : Nat, j ≤ ks.length ∧ t = .int .i64 j ∧ Hid (RwI X w wr 211 18 u j)) (fun _ t _ => ks.length - (intOf t).toNat)
  case atStart => exact ⟨0, Nat.zero_le _, rfl, Lib.hid ⟨⟨[], World.ownsRow_nil _ _ _ _⟩, H.out.go (Below.refl _ _)⟩⟩
  case round =>
    obtain ⟨j, hj, rfl, HI⟩ := hrel
    obtain ⟨⟨xs, hrow⟩, hgo⟩ := HI.out
    have HRW := Lib.hid hrow
    have HG := Lib.hid hgo
    have hzw : w.heap.size ≤ wr.heap.size := hgo.1.size
    clear hrow hgo
    by_cases hlt : j < ks.length
    · have hg := List.getElem?_eq_getElem hlt
      have hmm := List.getElem_mem hlt
      generalize ks[j] = k at *
      have hkr := HR.out k hmm
      have hmk := HM.out k hmm
      obtain ⟨g, off, rfl, hgl, hc, hkn⟩ := (HG.out.kids H.out HK.out).cell hg
      obtain ⟨e, hek, hbare, hsh, hml, hll2, hgt, c0, c1, c2, c3, c4, b0, hbw, KB0⟩ := at_facts X hok wr HG.out.2 k hkn
      have hkd : e.kind = 35 ∨ e.kind = 36 ∨ e.kind = 37 := by
        obtain ⟨x, hx, hm⟩ := hkr
        rw [hek] at hx
        cases hx
        simpa using hm
      have KB := Lib.hid KB0
      have HML := Lib.hid hml
      have HLL := Lib.hid hll2
      have HSH := Lib.hid hsh
      have HGT := Lib.hid hgt
      have HBA := Lib.hid hbare
      have HKD := Lib.hid hkd
      clear KB0 hml hll2 hsh hgt hek hbare hg hmm hkr hkd
      generalize X.kl k = l at *
      go_upto_region 5 with fail
      go_cut [8, 9] (fun s8 s9 wx => ∃ (g : Nat) (A3 : Option Addr) (c3 : Nat), s8 = .pointer (some ⟨g, 0, none⟩) ∧ s9 = .slice A3 l.length c3 ∧ Hid (ShI X.n e l wr wx g A3 c3))
      case first =>
        go_region_held3 (fun w' => (Below wr.heap.size wr w' ∧ w'.cell? ⟨X.b, X.o + k * 5, none⟩ = some (.int .i64 e.kind) ∧ w'.cell? ⟨X.b, X.o + k * 5 + 1, none⟩ = some (.int .i64 e.op) ∧ w'.cell? ⟨X.b, X.o + k * 5 + 2, none⟩ = some (.string e.text) ∧ w'.cell? ⟨X.b, X.o + k * 5 + 3, none⟩ = some (.int .i64 e.flag) ∧ w'.cell? ⟨X.b, X.o + k * 5 + 4, none⟩ = some (.int .i64 e.size)) ∧ w'.cell? ⟨X.bB, 0, none⟩ = some (.slice (some ⟨X.b, X.o, none⟩) X.n X.c))
          ((refine keepR ?_ c0 c1 c2 c3 c4 b0; repeat (first | with_reducible exact Below.refl _ _ | with_reducible exact hk9 | with_reducible apply Below.drew | with_reducible apply belowS_alloc | (with_reducible refine belowS_set ?_ (Nat.le_refl _) _))))
          (first
            | (go_at_call 41; refine (KB.out wr.drew (Below.refl _ _).drew).mono ?_; rintro e9 w9 ⟨⟨A9, c9, rfl, hr9⟩, hb9⟩; have hk9 : Below wr.heap.size wr w9 := below_of1 hb9)
            | (go_at_call 41; refine (KB.out (wr.alloc (.cells zeroA 26)).drew (belowS_alloc (Below.refl _ _) _).drew).mono ?_; rintro e9 w9 ⟨⟨A9, c9, rfl, hr9⟩, hb9⟩; have hk9 : Below wr.heap.size wr w9 := below_of2 hb9; have hN := blk_of2 hb9; have hbs : wr.heap.size + 1 ≤ (wr.alloc (.cells zeroA 26)).drew.heap.size := (by show wr.heap.size + 1 ≤ (wr.alloc _).heap.size; simp); have n0 := hN.cell 0; have n1 := hN.cell 1; have n2 := hN.cell 2; have n3 := hN.cell 3; have n4 := hN.cell 4; have m0 := hN.frozen 0; have m1 := hN.frozen 1; have m2 := hN.frozen 2; have m3 := hN.frozen 3; have m4 := hN.frozen 4; simp only [zeroA, List.getElem?_toArray, List.getElem?_cons_zero, List.getElem?_cons_succ] at n0 n1 n2 n3 n4)
            | (go_at_call 41; refine (KB.out (wr.alloc (.cells (cellsA e) 26)).drew (belowS_alloc (Below.refl _ _) _).drew).mono ?_; rintro e9 w9 ⟨⟨A9, c9, rfl, hr9⟩, hb9⟩; have hk9 : Below wr.heap.size wr w9 := below_of2 hb9; have hN := blk_of2 hb9))
        all_goals
          go_wp2_with fail
          go_meet
          first
            | (have hz9 := hbs; exact ⟨_, _, _, rfl, rfl, Lib.hid (shI_2 hk9 hr9 HML.out HLL.out hN hz9)⟩)
            | (have hz9 := hN; exact ⟨_, _, _, rfl, rfl, Lib.hid (shI_3 hk9 hr9 HML.out HLL.out hz9)⟩)
            | exact ⟨_, _, _, rfl, rfl, Lib.hid (shI_1 hk9 hr9 HML.out HLL.out)⟩
      case rest =>
        obtain ⟨gb, A3, q3, rfl, rfl, HI2⟩ := hcut
        obtain ⟨hbx, hko, hb⟩ := HI2.out
        have hgc := HG.out.2.go hb
        have HGc := Lib.hid (HG.out.trans hgc)
        have HRc := Lib.hid (hgc.own HG.out.2 HRW.out (by decide))
        have x0 := hbx.cell 0
        have x1 := hbx.cell 1
        have x2 := hbx.cell 2
        have x3 := hbx.cell 3
        have x4 := hbx.cell 4
        simp only [cellsA, List.getElem?_toArray, List.getElem?_cons_zero, List.getElem?_cons_succ] at x0 x1 x2 x3 x4
        have hzc : w.heap.size ≤ wc.heap.size := HGc.out.1.size
        have HKO := Lib.hid hko
        have HB3 := Lib.hid hbx
        clear HI2 c0 c1 c2 c3 c4 b0 hbx hko hb hgc
        rcases HKD.out with hkd | hkd | hkd
        · have h35 : P35 X.es e.flag l := by
            have := HSH.out
            unfold ShapeP GreatP at this
            rw [hkd] at this
            simpa [inL0, inL1] using this
          have hb35 := HBA.out.2.2.2 hkd
          rw [hkd] at x0
          have hlp : ((l.length : Nat) : Int) > 0 := by
            obtain ⟨q, r, a, hq, -⟩ := h35
            rw [hq]
            simp
            omega
          have KF := Lib.hid (field_any X hok e wc HGc.out.2 k (HN.out.mono hmk) A3 q3 l HKO.out h35 hb35.1 hb35.2 (fun j hj => Nat.le_of_lt (HGT.out j hj)))
          rw [hkd] at KF
          clear h35 hb35 hkd
          go_wp2_with fail
          refine KF.out.mono ?_
          rintro e1 w1 ⟨⟨m1, i1, v1, v2, v3, kd, hd, sb, rfl, o1, o2, o3⟩, hgo1⟩
          have HR1 := Lib.hid (hgo1.own HGc.out.2 HRc.out (by decide))
          have HG1 := Lib.hid (HGc.out.trans hgo1)
          have hzw1 : w.heap.size ≤ w1.heap.size := HG1.out.1.size
          have HO := Lib.hid (fd_one m1 i1 v1 v2 v3 kd hd sb o1 o2 o3)
          clear hgo1 o1 o2 o3
          unfold fdCells
          go_wp2_with (at_builtin; refine wpList_append_x _ rfl (.tmp 41) (.tmp 46) 185 rfl w.heap.size 211 i0 _ 18 240 Try.underlying185 hi hz hsz hbb rfl (by omega) u5 j _ rfl (HR1.out.alloc _) (w1.heap.size + 1) (some ⟨w1.heap.size, 0, none⟩) 1 1 (fdCells m1 i1 v1 v2 v3 kd hd sb).toList rfl (Reads.ofBlock (cs := fdCells m1 i1 v1 v2 v3 kd hd sb) (heap_alloc_new _ _) rfl (by omega)) (one_list HO.out) (.inr (by omega)) (by unfold maxLen; omega) (by omega) (by simp; omega) (w1.heap.size + 1) (by simp) ?_; intro g2 cap2 w3 hown2 hgrow2 hat2 hlt2)
          have HX := Lib.hid (rwI_step HG1.out HR1.out hown2 hgrow2 hl1 hl2 hl3)
          clear hown2 hgrow2 hat2
          go_roundw
          case rel => exact ⟨j + 1, by omega, by go_num, HX⟩
          case measure => simp [intOf]; omega
        · obtain ⟨a, rfl, ha⟩ : S36 X.es l := by
            have := HSH.out
            unfold ShapeP at this
            rw [hkd] at this
            simpa [inL0, inL1] using this
          rw [hkd] at x0
          have hka := HGT.out a (by simp)
          obtain ⟨gq, oq, rfl, hglq, hcq, -⟩ := HKO.out.cell (j := 0) (k := a) rfl
          simp only [Nat.add_zero] at hcq
          have KF := Lib.hid (bind_any X hok wc HGc.out.2 a (HN.out.mono (by omega)) ha)
          have zl : ([a].length) = 1 := rfl
          clear ha hkd
          go_wp2_with fail
          refine KF.out.mono ?_
          rintro e1 w1 ⟨⟨tx, t9, g9, p9, rfl⟩, hgo1⟩
          have hR1 := hgo1.own HGc.out.2 HRc.out (by decide)
          have hG1 := HGc.out.trans hgo1
          have hzw1 : w.heap.size ≤ w1.heap.size := hG1.1.size
          have hBz := Lib.hid (Blk.new w1 164 (bdCells ⟨#[]⟩ .nilIface none))
          go_upto_region 11 with (refine wpList_store_row rfl 164 (.tmp 10) (.tmp 61) rfl w1.heap.size (bdCells tx (.iface t9 (.pointer (some ⟨g9, 0, none⟩))) p9) rfl rfl 164 _ hBz.out size_bd rfl (by simp [bdCells, Value.oneCell']) ?_)
          have hG3 := (hG1.alloc (.cells (bdCells ⟨#[]⟩ .nilIface none) 164)).setRow H.out (g := w1.heap.size) hzw1 (bdCells tx (.iface t9 (.pointer (some ⟨g9, 0, none⟩))) p9)
          have hR3 := own_setRow (hR1.alloc (.cells (bdCells ⟨#[]⟩ .nilIface none) 164)) (g := w1.heap.size) hBz.out (by decide) (bdCells tx (.iface t9 (.pointer (some ⟨g9, 0, none⟩))) p9)
          have hB3 := hBz.out.setRow (cs' := bdCells tx (.iface t9 (.pointer (some ⟨g9, 0, none⟩))) p9)
          obtain ⟨W3, hW3⟩ : ∃ W3, ((w1.alloc (.cells (bdCells ⟨#[]⟩ .nilIface none) 164)).setRow w1.heap.size (bdCells tx (.iface t9 (.pointer (some ⟨g9, 0, none⟩))) p9)) = W3 := ⟨_, rfl⟩
          rw [hW3] at hG3 hR3 hB3
          erw [hW3]
          clear hW3 hgo1 hR1 hG1 hBz
          have hB4 := hB3.alloc (.cells #[.string tx] 112)
          have y3 := hB3.cell 3
          have y1 := hB4.cell 1
          have y5 := hB4.cell 5
          simp only [bdCells, List.getElem?_toArray, List.getElem?_cons_zero, List.getElem?_cons_succ] at y1 y3 y5
          have hz3 : w.heap.size ≤ W3.heap.size := hG3.1.size
          have HG3 := Lib.hid (hG3.alloc (.cells #[.string tx] 112))
          have HR3 := Lib.hid (hR3.alloc (.cells #[.string tx] 112))
          have hzz : (W3.alloc (.cells #[.string tx] 112)).heap.size = W3.heap.size + 1 := by simp
          have HZZ := Lib.hid hzz
          have HO := Lib.hid (fd_one p9 (some ⟨W3.heap.size, 0, none⟩) .nilIface (.iface t9 (.pointer (some ⟨g9, 0, none⟩))) .nilIface 4 2 false (by unfold One; simp) (by unfold One; simp) (by unfold One; simp))
          clear hG3 hR3 hB3 hB4 hzz
          go_wp2_with (at_builtin; refine wpList_append_x _ rfl (.tmp 64) (.tmp 70) 185 rfl w.heap.size 211 i0 _ 18 240 Try.underlying185 hi hz hsz hbb rfl (by omega) u5 j _ rfl (HR3.out.alloc _) (W3.heap.size + 1 + 1) (some ⟨W3.heap.size + 1, 0, none⟩) 1 1 (fdCells p9 (some ⟨W3.heap.size, 0, none⟩) .nilIface (.iface t9 (.pointer (some ⟨g9, 0, none⟩))) .nilIface 4 2 false).toList rfl (Reads.ofBlock (cs := fdCells p9 (some ⟨W3.heap.size, 0, none⟩) .nilIface (.iface t9 (.pointer (some ⟨g9, 0, none⟩))) .nilIface 4 2 false) (heap_newAt _ _ HZZ.out _) rfl (by omega)) (one_list HO.out) (.inr (by omega)) (by unfold maxLen; omega) (by omega) (by simp; omega) (W3.heap.size + 1 + 1) (by simp) ?_; intro g2 cap2 w3 hown2 hgrow2 hat2 hlt2)
          have HX := Lib.hid (rwI_step HG3.out HR3.out hown2 hgrow2 hl1 hl2 hl3)
          clear hown2 hgrow2 hat2
          go_roundw
          case rel => exact ⟨j + 1, by omega, by go_num, HX⟩
          case measure => simp [intOf]; omega
        · have hsn : SN (1 + e.flag) X.es l := by
            have := HSH.out
            unfold ShapeP at this
            rw [hkd] at this
            simpa [inL0, inL1] using this
          have hfl : e.flag = 0 ∨ e.flag = 1 := HBA.out.1 (by simp [hkd])
          rw [hkd] at x0
          rcases hfl with hf | hf
          · obtain ⟨a, rfl⟩ : ∃ a, l = [a] := by
              have hl := hsn.1
              rw [hf] at hl
              match l, hl with
              | [a], _ => exact ⟨_, rfl⟩
              | [], h => simp at h
              | _ :: _ :: _, h => simp at h; omega
            rw [hf] at x3
            have HF := Lib.hid hf
            have hka := HGT.out a (by simp)
            obtain ⟨xa, -, KA⟩ := HN.out a (by omega) (hsn.2 a (by simp))
            have KKA := Lib.hid KA
            obtain ⟨gq, oq, rfl, hglq, hcq, -⟩ := HKO.out.cell (j := 0) (k := a) rfl
            simp only [Nat.add_zero] at hcq
            have zl : ([a].length) = 1 := rfl
            clear hsn hf hkd KA
            go_wp2_with fail
            refine (KKA.out _ HGc.out.2).mono ?_
            rintro e1 w1 ⟨⟨g1, rfl, -⟩, hgo1⟩
            generalize tyOf xa.kind = t1 at *
            have hR1 := hgo1.own HGc.out.2 HRc.out (by decide)
            have hG1 := HGc.out.trans hgo1
            have hzw1 : w.heap.size ≤ w1.heap.size := hG1.1.size
            have hfar := Lib.hid (show u5.ownBlock ≠ some w1.heap.size from fun e => by have := (hR1.lt _ e).2; omega)
            have hBz := Lib.hid (Blk.new w1 211 #[.pointer none, .pointer none, .slice none 0 0, .slice none 0 0, .slice none 0 0, .slice none 0 0, .nilIface, .nilIface, .nilIface, .pointer none, .string ⟨#[]⟩, .int .i64 0, .int .i64 0, .int .i64 0, .int .i64 0, .int .i64 0, .int .i64 0, .bool false])
            have HO1 := Lib.hid (fd_one none none .nilIface (.iface t1 (.pointer (some ⟨g1, 0, none⟩))) .nilIface 0 2 false (by unfold One; simp) (by unfold One; simp) (by unfold One; simp))
            go_upto_region 15 with (refine wpList_store_row rfl 211 (.tmp 12) (.tmp 94) rfl w1.heap.size (fdCells none none .nilIface (.iface t1 (.pointer (some ⟨g1, 0, none⟩))) .nilIface 0 2 false) rfl rfl 211 _ hBz.out size_fd rfl HO1.out ?_)
            have hG3 := (hG1.alloc (.cells #[.pointer none, .pointer none, .slice none 0 0, .slice none 0 0, .slice none 0 0, .slice none 0 0, .nilIface, .nilIface, .nilIface, .pointer none, .string ⟨#[]⟩, .int .i64 0, .int .i64 0, .int .i64 0, .int .i64 0, .int .i64 0, .int .i64 0, .bool false] 211)).setRow H.out (g := w1.heap.size) hzw1 (fdCells none none .nilIface (.iface t1 (.pointer (some ⟨g1, 0, none⟩))) .nilIface 0 2 false)
            have hR3 := (hR1.alloc (.cells #[.pointer none, .pointer none, .slice none 0 0, .slice none 0 0, .slice none 0 0, .slice none 0 0, .nilIface, .nilIface, .nilIface, .pointer none, .string ⟨#[]⟩, .int .i64 0, .int .i64 0, .int .i64 0, .int .i64 0, .int .i64 0, .int .i64 0, .bool false] 211)).kept (grownBy_setRow _ w1.heap.size (fdCells none none .nilIface (.iface t1 (.pointer (some ⟨g1, 0, none⟩))) .nilIface 0 2 false)) (.inr hfar.out)
            have hN3 := ((hgo1.blk HGc.out.2 HB3.out (by decide)).alloc (.cells #[.pointer none, .pointer none, .slice none 0 0, .slice none 0 0, .slice none 0 0, .slice none 0 0, .nilIface, .nilIface, .nilIface, .pointer none, .string ⟨#[]⟩, .int .i64 0, .int .i64 0, .int .i64 0, .int .i64 0, .int .i64 0, .int .i64 0, .bool false] 211)).farRow (g' := w1.heap.size) (fun e => by have := HB3.out.lt; have := hgo1.1.size; omega) (fdCells none none .nilIface (.iface t1 (.pointer (some ⟨g1, 0, none⟩))) .nilIface 0 2 false)
            have hB3 := hBz.out.setRow (cs' := (fdCells none none .nilIface (.iface t1 (.pointer (some ⟨g1, 0, none⟩))) .nilIface 0 2 false))
            obtain ⟨W3, hW3⟩ : ∃ W3, ((w1.alloc (.cells #[.pointer none, .pointer none, .slice none 0 0, .slice none 0 0, .slice none 0 0, .slice none 0 0, .nilIface, .nilIface, .nilIface, .pointer none, .string ⟨#[]⟩, .int .i64 0, .int .i64 0, .int .i64 0, .int .i64 0, .int .i64 0, .int .i64 0, .bool false] 211)).setRow w1.heap.size (fdCells none none .nilIface (.iface t1 (.pointer (some ⟨g1, 0, none⟩))) .nilIface 0 2 false)) = W3 := ⟨_, rfl⟩
            rw [hW3] at hG3 hR3 hB3 hN3
            rw [hW3]
            clear hW3 hgo1 hR1 hG1 hBz
            have x3n := hN3.cell 3
            simp only [cellsA, List.getElem?_toArray, List.getElem?_cons_zero, List.getElem?_cons_succ] at x3n
            rw [HF.out] at x3n
            have hz3 : w.heap.size ≤ W3.heap.size := hG3.1.size
            have HP := Lib.hid hB3
            have HG3 := Lib.hid hG3
            have HR3 := Lib.hid hR3
            have HZZ := Lib.hid (show W3.heap.size = W3.heap.size from rfl)
            have HO := HO1
            clear hG3 hR3 hB3 hN3
            go_wp2_with (first | refine wpList_load_row rfl 211 (.tmp 12) rfl w1.heap.size rfl 211 #[.pointer none, .pointer none, .slice none 0 0, .slice none 0 0, .slice none 0 0, .slice none 0 0, .nilIface, .iface t1 (.pointer (some ⟨g1, 0, none⟩)), .nilIface, .pointer none, .string ⟨#[]⟩, .int .i64 0, .int .i64 0, .int .i64 0, .int .i64 0, .int .i64 0, .int .i64 2, .bool false] (0, 0) _ HP.out Try.underlying211 rfl size_fd ?_ | (at_builtin; refine wpList_append_x _ rfl (.tmp 104) (.tmp 106) 185 rfl w.heap.size 211 i0 _ 18 240 Try.underlying185 hi hz hsz hbb rfl (by omega) u5 j _ rfl (HR3.out.alloc _) (W3.heap.size + 1) (some ⟨W3.heap.size, 0, none⟩) 1 1 (fdCells none none .nilIface (.iface t1 (.pointer (some ⟨g1, 0, none⟩))) .nilIface 0 2 false).toList rfl (Reads.ofBlock (cs := (fdCells none none .nilIface (.iface t1 (.pointer (some ⟨g1, 0, none⟩))) .nilIface 0 2 false)) (heap_newAt _ _ HZZ.out _) rfl (by omega)) (one_list HO.out) (.inr (by omega)) (by unfold maxLen; omega) (by omega) (by simp; omega) (W3.heap.size + 1) (by simp) ?_; intro g2 cap2 w3 hown2 hgrow2 hat2 hlt2))
            have HX := Lib.hid (rwI_step HG3.out HR3.out hown2 hgrow2 hl1 hl2 hl3)
            clear hown2 hgrow2 hat2
            go_roundw
            case rel => exact ⟨j + 1, by omega, by go_num, HX⟩
            case measure => simp [intOf]; omega
          · obtain ⟨a, b, rfl⟩ : ∃ a b, l = [a, b] := by
              have hl := hsn.1
              rw [hf] at hl
              match l, hl with
              | [a, b], _ => exact ⟨_, _, rfl⟩
              | [], h => simp at h
              | [_], h => simp at h
              | _ :: _ :: _ :: _, h => simp at h; omega
            rw [hf] at x3
            have HF := Lib.hid hf
            have hka := HGT.out a (by simp)
            obtain ⟨xa, -, KA⟩ := HN.out a (by omega) (hsn.2 a (by simp))
            have KKA := Lib.hid KA
            have hkb := HGT.out b (by simp)
            obtain ⟨xb, -, KB2⟩ := HN.out b (by omega) (hsn.2 b (by simp))
            have KKB := Lib.hid KB2
            clear KB2
            obtain ⟨gq, oq, rfl, hglq, hcq, -⟩ := HKO.out.cell (j := 0) (k := a) rfl
            simp only [Nat.add_zero] at hcq
            have zl : ([a, b].length) = 2 := rfl
            clear hsn hf hkd KA
            go_wp2_with fail
            refine (KKA.out _ HGc.out.2).mono ?_
            rintro e1 w1 ⟨⟨g1, rfl, -⟩, hgo1⟩
            generalize tyOf xa.kind = t1 at *
            have hR1 := hgo1.own HGc.out.2 HRc.out (by decide)
            have hG1 := HGc.out.trans hgo1
            have hzw1 : w.heap.size ≤ w1.heap.size := hG1.1.size
            have hfar := Lib.hid (show u5.ownBlock ≠ some w1.heap.size from fun e => by have := (hR1.lt _ e).2; omega)
            have hBz := Lib.hid (Blk.new w1 211 #[.pointer none, .pointer none, .slice none 0 0, .slice none 0 0, .slice none 0 0, .slice none 0 0, .nilIface, .nilIface, .nilIface, .pointer none, .string ⟨#[]⟩, .int .i64 0, .int .i64 0, .int .i64 0, .int .i64 0, .int .i64 0, .int .i64 0, .bool false])
            have HO1 := Lib.hid (fd_one none none .nilIface (.iface t1 (.pointer (some ⟨g1, 0, none⟩))) .nilIface 0 2 false (by unfold One; simp) (by unfold One; simp) (by unfold One; simp))
            go_upto_region 15 with (refine wpList_store_row rfl 211 (.tmp 12) (.tmp 94) rfl w1.heap.size (fdCells none none .nilIface (.iface t1 (.pointer (some ⟨g1, 0, none⟩))) .nilIface 0 2 false) rfl rfl 211 _ hBz.out size_fd rfl HO1.out ?_)
            have hG3 := (hG1.alloc (.cells #[.pointer none, .pointer none, .slice none 0 0, .slice none 0 0, .slice none 0 0, .slice none 0 0, .nilIface, .nilIface, .nilIface, .pointer none, .string ⟨#[]⟩, .int .i64 0, .int .i64 0, .int .i64 0, .int .i64 0, .int .i64 0, .int .i64 0, .bool false] 211)).setRow H.out (g := w1.heap.size) hzw1 (fdCells none none .nilIface (.iface t1 (.pointer (some ⟨g1, 0, none⟩))) .nilIface 0 2 false)
            have hR3 := (hR1.alloc (.cells #[.pointer none, .pointer none, .slice none 0 0, .slice none 0 0, .slice none 0 0, .slice none 0 0, .nilIface, .nilIface, .nilIface, .pointer none, .string ⟨#[]⟩, .int .i64 0, .int .i64 0, .int .i64 0, .int .i64 0, .int .i64 0, .int .i64 0, .bool false] 211)).kept (grownBy_setRow _ w1.heap.size (fdCells none none .nilIface (.iface t1 (.pointer (some ⟨g1, 0, none⟩))) .nilIface 0 2 false)) (.inr hfar.out)
            have hN3 := ((hgo1.blk HGc.out.2 HB3.out (by decide)).alloc (.cells #[.pointer none, .pointer none, .slice none 0 0, .slice none 0 0, .slice none 0 0, .slice none 0 0, .nilIface, .nilIface, .nilIface, .pointer none, .string ⟨#[]⟩, .int .i64 0, .int .i64 0, .int .i64 0, .int .i64 0, .int .i64 0, .int .i64 0, .bool false] 211)).farRow (g' := w1.heap.size) (fun e => by have := HB3.out.lt; have := hgo1.1.size; omega) (fdCells none none .nilIface (.iface t1 (.pointer (some ⟨g1, 0, none⟩))) .nilIface 0 2 false)
            have hB3 := hBz.out.setRow (cs' := (fdCells none none .nilIface (.iface t1 (.pointer (some ⟨g1, 0, none⟩))) .nilIface 0 2 false))
            have hgK := ((hgo1.alloc (.cells #[.pointer none, .pointer none, .slice none 0 0, .slice none 0 0, .slice none 0 0, .slice none 0 0, .nilIface, .nilIface, .nilIface, .pointer none, .string ⟨#[]⟩, .int .i64 0, .int .i64 0, .int .i64 0, .int .i64 0, .int .i64 0, .int .i64 0, .bool false] 211)).setRow HGc.out.2 (g := w1.heap.size) hgo1.1.size (fdCells none none .nilIface (.iface t1 (.pointer (some ⟨g1, 0, none⟩))) .nilIface 0 2 false)).cellK HGc.out.2 HKO.out (j := 1) (k := b) rfl
            obtain ⟨W3, hW3⟩ : ∃ W3, ((w1.alloc (.cells #[.pointer none, .pointer none, .slice none 0 0, .slice none 0 0, .slice none 0 0, .slice none 0 0, .nilIface, .nilIface, .nilIface, .pointer none, .string ⟨#[]⟩, .int .i64 0, .int .i64 0, .int .i64 0, .int .i64 0, .int .i64 0, .int .i64 0, .bool false] 211)).setRow w1.heap.size (fdCells none none .nilIface (.iface t1 (.pointer (some ⟨g1, 0, none⟩))) .nilIface 0 2 false)) = W3 := ⟨_, rfl⟩
            rw [hW3] at hG3 hR3 hB3 hN3 hgK
            rw [hW3]
            clear hW3 hgo1 hR1 hG1 hBz
            have x3n := hN3.cell 3
            simp only [cellsA, List.getElem?_toArray, List.getElem?_cons_zero, List.getElem?_cons_succ] at x3n
            rw [HF.out] at x3n
            have hz3 : w.heap.size ≤ W3.heap.size := hG3.1.size
            clear hN3
            go_wp2_with fail
            refine (KKB.out _ hG3.2).mono ?_
            rintro e2 w2 ⟨⟨g2, rfl, -⟩, hgo2⟩
            generalize tyOf xb.kind = t2 at *
            have hR4 := hgo2.own hG3.2 hR3 (by decide)
            have hG4 := hG3.trans hgo2
            have hB4 := hgo2.blk hG3.2 hB3 (by decide)
            have z8 := hB4.cell 8
            have fz8 := hB4.frozen 8
            simp only [fdCells, List.getElem?_toArray, List.getElem?_cons_zero, List.getElem?_cons_succ] at z8
            have HP : Hid (Blk (w2.setCell ⟨w1.heap.size, 8, none⟩ (.iface t2 (.pointer (some ⟨g2, 0, none⟩)))) w1.heap.size 211 (fdCells none none .nilIface (.iface t1 (.pointer (some ⟨g1, 0, none⟩))) (.iface t2 (.pointer (some ⟨g2, 0, none⟩))) 0 2 false)) := Lib.hid (by simpa [fdCells] using hB4.set_ 8 (.iface t2 (.pointer (some ⟨g2, 0, none⟩))))
            have HG3 := Lib.hid (hG4.set H.out (g := w1.heap.size) (i := 8) hzw1 (.iface t2 (.pointer (some ⟨g2, 0, none⟩))))
            have HR3 := Lib.hid (hR4.kept (grownBy_set2 w2 ⟨w1.heap.size, 8, none⟩ (.iface t2 (.pointer (some ⟨g2, 0, none⟩)))) (.inr hfar.out))
            have HO := Lib.hid (fd_one none none .nilIface (.iface t1 (.pointer (some ⟨g1, 0, none⟩))) (.iface t2 (.pointer (some ⟨g2, 0, none⟩))) 0 2 false (by unfold One; simp) (by unfold One; simp) (by unfold One; simp))
            have hz4 : w.heap.size ≤ w2.heap.size := hG4.1.size
            have HZZ := Lib.hid (show (w2.setCell ⟨w1.heap.size, 8, none⟩ (.iface t2 (.pointer (some ⟨g2, 0, none⟩)))).heap.size = w2.heap.size by simp)
            clear hG3 hR3 hB3 hR4 hG4 hB4 hgo2
            go_wp2_with (first | refine wpList_load_row rfl 211 (.tmp 12) rfl w1.heap.size rfl 211 #[.pointer none, .pointer none, .slice none 0 0, .slice none 0 0, .slice none 0 0, .slice none 0 0, .nilIface, .iface t1 (.pointer (some ⟨g1, 0, none⟩)), .iface t2 (.pointer (some ⟨g2, 0, none⟩)), .pointer none, .string ⟨#[]⟩, .int .i64 0, .int .i64 0, .int .i64 0, .int .i64 0, .int .i64 0, .int .i64 2, .bool false] (0, 0) _ HP.out Try.underlying211 rfl size_fd ?_ | (at_builtin; refine wpList_append_x _ rfl (.tmp 104) (.tmp 106) 185 rfl w.heap.size 211 i0 _ 18 240 Try.underlying185 hi hz hsz hbb rfl (by omega) u5 j _ rfl (HR3.out.alloc _) (w2.heap.size + 1) (some ⟨w2.heap.size, 0, none⟩) 1 1 (fdCells none none .nilIface (.iface t1 (.pointer (some ⟨g1, 0, none⟩))) (.iface t2 (.pointer (some ⟨g2, 0, none⟩))) 0 2 false).toList rfl (Reads.ofBlock (cs := (fdCells none none .nilIface (.iface t1 (.pointer (some ⟨g1, 0, none⟩))) (.iface t2 (.pointer (some ⟨g2, 0, none⟩))) 0 2 false)) (heap_newAt _ _ HZZ.out _) rfl (by omega)) (one_list HO.out) (.inr (by omega)) (by unfold maxLen; omega) (by omega) (by simp; omega) (w2.heap.size + 1) (by simp) ?_; intro g2 cap2 w3 hown2 hgrow2 hat2 hlt2))
            have HX := Lib.hid (rwI_step HG3.out HR3.out hown2 hgrow2 hl1 hl2 hl3)
            clear hown2 hgrow2 hat2
            go_roundw
            case rel => exact ⟨j + 1, by omega, by go_num, HX⟩
            case measure => simp [intOf]; omega
    · obtain rfl : j = ks.length := by omega
      obtain ⟨A5, c5, rfl⟩ := own_form2 HRW.out
      go_wp2_with fail
      go_ret
      exact ⟨⟨_, _, _, rfl⟩, HG.out⟩
end Go.Proofs.Ytdhhdnopilfifaa
