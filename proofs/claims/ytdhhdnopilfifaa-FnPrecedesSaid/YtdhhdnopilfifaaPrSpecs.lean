/-
  The builder: specs. (Printed by wip/gen_specs.py.)
-/
import Derived.Test.YtdhhdnopilfifaaPrArgs
namespace Go.Proofs.Ytdhhdnopilfifaa
open Go.RowKit

theorem info_ifs : (Try.prog.info? 208).map (fun i => (i.zero, i.size, i.bytes)) = some (some (.agg #[.nilIface, .slice none 0 0]), 2, 40) := by kernel_rfl
theorem size_fs : (Try.prog.info? 179).map (·.size) = some 7 := by kernel_rfl
def fsCells (A : Option Addr) (p c : Nat) (oo : Option Addr) (ex : Value) (tx : ByteArray) : Array Value := #[.slice none 0 0, .slice none 0 0, .slice A p c, .pointer oo, ex, .string tx, .slice none 0 0]
def fsZero : Array Value := #[.slice none 0 0, .slice none 0 0, .slice none 0 0, .pointer none, .nilIface, .string ⟨#[]⟩, .slice none 0 0]
theorem fs_one (A : Option Addr) (p c : Nat) (oo : Option Addr) (ex : Value) (tx : ByteArray) (h : One ex) : (fsCells A p c oo ex tx).all (·.oneCell') = true := by
  rcases h with rfl | ⟨t1, g1, rfl⟩ <;> simp [fsCells, Value.oneCell']
def SpPost (X : Cx) (w : World) (e : Ending) (w' : World) : Prop := (∃ A p c oo ex tx, e = .returned (.agg (fsCells A p c oo ex tx)) ∧ One ex) ∧ X.Go w w'
/-- The spec so far, where there is one. -/
def SpO (w wr : World) (g j : Nat) (A : Option Addr) (p c : Nat) (oo : Option Addr) (ex : Value) (tx : ByteArray) : Prop :=
  w.heap.size < g ∧ Blk wr g 179 (fsCells A p c oo ex tx) ∧ (∃ xs, wr.ownsRow (w.heap.size + 1) 208 2 (.slice A p c) p xs) ∧ p ≤ j ∧ One ex
def SpI (X : Cx) (w wr : World) (j : Nat) (o : Option Addr) : Prop :=
  Blk wr w.heap.size 179 fsZero ∧ X.Go w wr ∧ (j = 0 → o = none) ∧ (0 < j → ∃ g A p c oo ex tx, o = some ⟨g, 0, none⟩ ∧ SpO w wr g j A p c oo ex tx)
theorem spI_for {X : Cx} {w w9 : World} {j : Nat} {oo : Option Addr} {ex : Value} {tx : ByteArray} (HG : X.Go w w9) (HB : Blk w9 w.heap.size 179 fsZero) (hx : One ex) :
    SpI X w (w9.alloc (.cells (fsCells none 0 0 oo ex tx) 179)) (j + 1) (some ⟨w9.heap.size, 0, none⟩) :=
  ⟨HB.alloc _, HG.alloc _, fun h => absurd h (by omega), fun _ => ⟨_, _, _, _, _, _, _, rfl, HB.lt, Blk.new _ _ _, ⟨[], World.ownsRow_nil _ _ _ _⟩, by omega, hx⟩⟩
theorem spI_if {X : Cx} {w W4 w3 : World} {j g p c g2 c2 : Nat} {A oo : Option Addr} {ex : Value} {tx : ByteArray} {xs xs' : List Value} (hi : X.Inv w) (hg : w.heap.size < g) (HG : X.Go w W4) (HB : Blk W4 w.heap.size 179 fsZero) (HO : Blk W4 g 179 (fsCells A p c oo ex tx))
    (HR : W4.ownsRow (w.heap.size + 1) 208 2 (.slice A p c) p xs) (hown : w3.ownsRow (w.heap.size + 1) 208 2 (.slice (some ⟨g2, 0, none⟩) (p + 1) c2) (p + 1) xs') (hgrow : W4.grownBy w3 (Value.slice A p c).ownBlock) (hp : p ≤ j) (hx : One ex) :
    SpI X w (w3.setCell ⟨g, 2, none⟩ (.slice (some ⟨g2, 0, none⟩) (p + 1) c2)) (j + 1) (some ⟨g, 0, none⟩) := by
  have hz : w.heap.size ≤ W4.heap.size := HG.1.size
  have hb : Below w.heap.size W4 w3 := (Below.refl w.heap.size W4).grown hgrow hz (fun k hk => by have := (HR.lt k hk).1; omega)
  have hO3 := HO.grown hgrow (fun e0 => own_blk_ne HR HO (by decide) e0.symm)
  have hB3 := HB.grown hgrow (fun e0 => own_blk_ne HR HB (by decide) e0.symm)
  refine ⟨hB3.far (by show w.heap.size ≠ g; omega) _, (HG.low hi hb).set hi (by omega) _, fun h => absurd h (by omega), fun _ => ⟨g, _, _, _, oo, ex, tx, rfl, hg, by have := hO3.set_ 2 (.slice (some ⟨g2, 0, none⟩) (p + 1) c2); simpa [fsCells] using this, ⟨xs', hown.kept (grownBy_set2 w3 _ _) (.inr (own_blk_ne hown hO3 (by decide)))⟩, by omega, hx⟩⟩
theorem SpO.go {X : Cx} {w wr w1 : World} {g j : Nat} {A : Option Addr} {p c : Nat} {oo : Option Addr} {ex : Value} {tx : ByteArray} (h : SpO w wr g j A p c oo ex tx) (hg : X.Go wr w1) (hi : X.Inv wr) : SpO w w1 g j A p c oo ex tx := by
  obtain ⟨h1, h2, ⟨xs, h3⟩, h4, h5⟩ := h
  exact ⟨h1, hg.blk hi h2 (by decide), ⟨xs, hg.own hi h3 (by decide)⟩, h4, h5⟩
set_option maxRecDepth 100000 in
set_option maxHeartbeats 6400000 in
theorem specs_any2 (X : Cx) (hok : X.OK) (w : World) (h : X.Inv w) (m : Nat) (hN : NodeA X m) (A2 : Option Addr) (cq : Nat) (ks : List Nat) (hk : KidsOK w X.n A2 cq ks) (hr : SpecsP X.es ks) (hm : ∀ k ∈ ks, m ≤ k) :
    Calls Try.prog 62 #[.pointer (some ⟨X.bB, 0, none⟩), .slice A2 ks.length cq] w (SpPost X w) := by
  have H := Lib.hid h
  have HK := Lib.hid hk
  have HN := Lib.hid hN
  have HR := Lib.hid hr
  have HM := Lib.hid hm
  have hll := hk.2.2.1
  obtain ⟨i0, hi, hz, hsz, hbb⟩ := info_parts info_ifs
  have hpos : 0 < ks.length := by
    obtain ⟨⟨a, r, rfl, -⟩, -⟩ := hr
    simp
  clear h hk hN hr hm
  go_enter Try.func62, Try.ntmps62
  go_wp2_with fail
  go_loopw [5, 12] (fun s t wr => ∃ (j : Nat) (o : Option Addr), j ≤ ks.length ∧ t = .int .i64 j ∧ s = .pointer o ∧ Hid (SpI X w wr j o)) (fun _ t _ => ks.length - (intOf t).toNat)
  case atStart => exact ⟨0, none, Nat.zero_le _, rfl, rfl, Lib.hid ⟨Blk.new _ _ _, (H.out.go (Below.refl _ _)).alloc _, fun _ => rfl, fun h => absurd h (by omega)⟩⟩
  case round =>
    obtain ⟨j, o, hj, rfl, rfl, HI⟩ := hrel
    obtain ⟨hres, hgo, hj0, hjp⟩ := HI.out
    have HG := Lib.hid hgo
    have HRes := Lib.hid hres
    have HJ := Lib.hid hjp
    have hzw : w.heap.size < wr.heap.size := hres.lt
    clear hgo hres hj0 hjp
    by_cases hlt : j < ks.length
    · have hg := List.getElem?_eq_getElem hlt
      have hmm := List.getElem_mem hlt
      generalize ks[j] = k at *
      have hkr := HR.out.2 k hmm
      have hmk := HM.out k hmm
      obtain ⟨g, off, rfl, hgl, hc, hkn⟩ := (HG.out.kids H.out HK.out).cell hg
      obtain ⟨e, hek, hbare, hsh, hml, hll2, hgt, c0, c1, c2, c3, c4, b0, hbw, KB0⟩ := at_facts X hok wr HG.out.2 k hkn
      have hkd : e.kind = 38 ∨ e.kind = 39 ∧ 0 < j := by
        obtain ⟨x, hx, hm⟩ := hkr
        rw [hek] at hx
        cases hx
        have hm2 : e.kind = 38 ∨ e.kind = 39 := by simpa using hm
        rcases hm2 with h | h
        · exact .inl h
        · refine .inr ⟨h, ?_⟩
          rcases Nat.eq_zero_or_pos j with h0 | h0
          · subst h0
            obtain ⟨⟨a, r, hl, x, hx, hm⟩, -⟩ := HR.out
            rw [hl] at hg
            cases hg
            rw [hek] at hx
            cases hx
            have : e.kind = 38 := by simpa using hm
            omega
          · exact h0
      have KB := Lib.hid KB0
      have HML := Lib.hid hml
      have HLL := Lib.hid hll2
      have HSH := Lib.hid hsh
      have HGT := Lib.hid hgt
      have HKD := Lib.hid hkd
      clear KB0 hml hll2 hsh hgt hek hbare hg hmm hkr hkd
      generalize X.kl k = l at *
      go_upto_region 5 with fail
      go_cut [8, 9] (fun s8 s9 wx => ∃ (g : Nat) (A3 : Option Addr) (c3 : Nat), s8 = .pointer (some ⟨g, 0, none⟩) ∧ s9 = .slice A3 l.length c3 ∧ Hid (ShI X.n e l wr wx g A3 c3))
      case first =>
        go_region_held3 (fun w' => (Below wr.heap.size wr w' ∧ w'.cell? ⟨X.b, X.o + k * 5, none⟩ = some (.int .i64 e.kind) ∧ w'.cell? ⟨X.b, X.o + k * 5 + 1, none⟩ = some (.int .i64 e.op) ∧ w'.cell? ⟨X.b, X.o + k * 5 + 2, none⟩ = some (.string e.text) ∧ w'.cell? ⟨X.b, X.o + k * 5 + 3, none⟩ = some (.int .i64 e.flag) ∧ w'.cell? ⟨X.b, X.o + k * 5 + 4, none⟩ = some (.int .i64 e.size)) ∧ w'.cell? ⟨X.bB, 0, none⟩ = some (.slice (some ⟨X.b, X.o, none⟩) X.n X.c))
          ((refine keepR ?_ c0 c1 c2 c3 c4 b0; repeat (first | with_reducible exact Below.refl _ _ | with_reducible exact hk9 | with_reducible apply Below.drew | with_reducible apply belowS_alloc | (with_reducible refine belowS_set ?_ (Nat.le_refl _) _))))
          (first
            | (go_at_call 41; refine (KB.out wr.drew (Below.refl _ _).drew).mono ?_; rintro e9 w9 ⟨⟨A9, c9, rfl, hr9⟩, hb9⟩; have hk9 : Below wr.heap.size wr w9 := below_of1 hb9)
            | (go_at_call 41; refine (KB.out (wr.alloc (.cells zeroA 26)).drew (belowS_alloc (Below.refl _ _) _).drew).mono ?_; rintro e9 w9 ⟨⟨A9, c9, rfl, hr9⟩, hb9⟩; have hk9 : Below wr.heap.size wr w9 := below_of2 hb9; have hN := blk_of2 hb9; have hbs : wr.heap.size + 1 ≤ (wr.alloc (.cells zeroA 26)).drew.heap.size := (by show wr.heap.size + 1 ≤ (wr.alloc _).heap.size; simp); have n0 := hN.cell 0; have n1 := hN.cell 1; have n2 := hN.cell 2; have n3 := hN.cell 3; have n4 := hN.cell 4; have m0 := hN.frozen 0; have m1 := hN.frozen 1; have m2 := hN.frozen 2; have m3 := hN.frozen 3; have m4 := hN.frozen 4; simp only [zeroA, List.getElem?_toArray, List.getElem?_cons_zero, List.getElem?_cons_succ] at n0 n1 n2 n3 n4)
            | (go_at_call 41; refine (KB.out (wr.alloc (.cells (cellsA e) 26)).drew (belowS_alloc (Below.refl _ _) _).drew).mono ?_; rintro e9 w9 ⟨⟨A9, c9, rfl, hr9⟩, hb9⟩; have hk9 : Below wr.heap.size wr w9 := below_of2 hb9; have hN := blk_of2 hb9))
        all_goals
          go_wp2_with fail
          go_meet
          first
            | (have hz9 := hbs; exact ⟨_, _, _, rfl, rfl, Lib.hid (shI_2 hk9 hr9 HML.out HLL.out hN hz9)⟩)
            | (have hz9 := hN; exact ⟨_, _, _, rfl, rfl, Lib.hid (shI_3 hk9 hr9 HML.out HLL.out hz9)⟩)
            | exact ⟨_, _, _, rfl, rfl, Lib.hid (shI_1 hk9 hr9 HML.out HLL.out)⟩
      case rest =>
        obtain ⟨gb, A3, q3, rfl, rfl, HI2⟩ := hcut
        obtain ⟨hbx, hko, hb⟩ := HI2.out
        have hgc := HG.out.2.go hb
        have HGc := Lib.hid (HG.out.trans hgc)
        have HResc := Lib.hid (hgc.blk HG.out.2 HRes.out (by decide))
        obtain ⟨a, rfl, ha⟩ : S1 X.es l := by
          have := HSH.out
          unfold ShapeP at this
          rcases HKD.out with h | ⟨h, -⟩ <;> rw [h] at this <;> simpa [inL0, inL1] using this
        have x0 := hbx.cell 0
        have x2 := hbx.cell 2
        simp only [cellsA, List.getElem?_toArray, List.getElem?_cons_zero, List.getElem?_cons_succ] at x0 x2
        have hka := HGT.out a (by simp)
        obtain ⟨xa, -, KA⟩ := HN.out a (by omega) ha
        have KKA := Lib.hid KA
        have hzc : w.heap.size < wc.heap.size := HResc.out.lt
        have HKO := Lib.hid hko
        have HB3 := Lib.hid hbx
        have zl : ([a].length) = 1 := rfl
        obtain ⟨gq, oq, rfl, hglq, hcq, -⟩ := HKO.out.cell (j := 0) (k := a) rfl
        simp only [Nat.add_zero] at hcq
        have HGC := Lib.hid hgc
        clear HI2 c0 c1 c2 c3 c4 b0 hbx hko hb hgc ha KA
        rcases HKD.out with hkd | ⟨hkd, hjp⟩
        · rw [hkd] at x0
          clear hkd
          go_upto_region 10 with fail
          have dq := (show wc.drew.cell? ⟨gq, oq, none⟩ = some (.int .i64 a) from hcq)
          have d2 := (show wc.drew.cell? ⟨gb, 2, none⟩ = some (.string e.text) from x2)
          go_region_law (go_simp; go_at_call 22; refine (KKA.out _ HGc.out.2.drew).mono ?_; rintro e9 w9 ⟨⟨g9, rfl, -⟩, hgo9⟩; generalize tyOf xa.kind = t9; have HG9 := Lib.hid (HGc.out.drew.trans hgo9); have HRes9 := Lib.hid (hgo9.blk HGc.out.2.drew HResc.out.drew (by decide)); have hE9 := hgo9.blk HGc.out.2.drew HB3.out.drew (by decide); have pt := hE9.cell 2; simp only [cellsA, List.getElem?_toArray, List.getElem?_cons_zero, List.getElem?_cons_succ] at pt; clear hgo9 hE9)
          all_goals
            have HX := Lib.hid (spI_for (j := j) (oo := o) (ex := .iface t9 (.pointer (some ⟨g9, 0, none⟩))) (tx := e.text) HG9.out HRes9.out (.inr ⟨_, _, rfl⟩))
            unfold fsCells at HX
            go_wp2_with fail
            go_roundw
            case rel => exact ⟨j + 1, _, by omega, by go_num, rfl, HX⟩
            case measure => simp [intOf]; omega
        · obtain ⟨go, Ao, p, cp, oo, ex, tx, rfl, hspo⟩ := HJ.out hjp
          obtain ⟨hgl0, hO, ⟨xs, hrow⟩, hpj, hone⟩ := hspo.go HGC.out HG.out.2
          have HO := Lib.hid hO
          have HRow := Lib.hid hrow
          have HOne := Lib.hid hone
          rw [hkd] at x0
          have hgo2 : go < wc.heap.size := hO.lt
          have d2 := hO.drew.cell 2
          simp only [fsCells, List.getElem?_toArray, List.getElem?_cons_zero, List.getElem?_cons_succ] at d2
          clear hkd hspo hO hrow hone
          go_upto_region 12 with fail
          have hfar := Lib.hid (show some go ≠ (Value.slice Ao p cp).ownBlock from fun e0 => own_blk_ne HRow.out HO.out (by decide) e0.symm)
          have dq := (show wc.drew.cell? ⟨gq, oq, none⟩ = some (.int .i64 a) from hcq)
          go_region_law (first
            | (go_simp; go_at_call 22; refine (KKA.out _ HGc.out.2.drew).mono ?_; rintro e9 w9 ⟨⟨g9, rfl, -⟩, hgo9⟩; generalize tyOf xa.kind = t9; have HG9 := Lib.hid (HGc.out.drew.trans hgo9); have HRes9 := Lib.hid (hgo9.blk HGc.out.2.drew HResc.out.drew (by decide)); have HR9 := Lib.hid (hgo9.own HGc.out.2.drew HRow.out.drew (by decide)); have HO9 := Lib.hid (hgo9.blk HGc.out.2.drew HO.out.drew (by decide)); have p2 := HO9.out.cell 2; have p2a := (HO9.out.alloc (.cells #[.iface t9 (.pointer (some ⟨g9, 0, none⟩)), .slice none 0 0] 208)).cell 2; have hz9 : w.heap.size < w9.heap.size := HRes9.out.lt; simp only [fsCells, List.getElem?_toArray, List.getElem?_cons_zero, List.getElem?_cons_succ] at p2 p2a; clear hgo9)
            | (refine step_append_x _ (by rfl) _ _ 176 (by rfl) (w.heap.size + 1) 208 i0 _ 2 40 Try.underlying176 hi hz hsz hbb rfl (by omega) (.slice Ao p cp) p xs (by rfl) (HR9.out.alloc _) (w9.heap.size + 1) (some ⟨w9.heap.size, 0, none⟩) 1 1 [.iface t9 (.pointer (some ⟨g9, 0, none⟩)), .slice none 0 0] (by rfl) (Reads.ofBlock (cs := #[.iface t9 (.pointer (some ⟨g9, 0, none⟩)), .slice none 0 0]) (heap_alloc_new _ _) rfl (by omega)) (by simp [Value.oneCell']) (.inr (by omega)) (by unfold maxLen; omega) (by omega) (by simp; omega) (w9.heap.size + 1) (by simp) ?_; intro g2 cap2 w3 hown2 hgrow2 hat2 hlt2; have hO3 := (HO9.out.alloc _).grown hgrow2 hfar.out; have t2 := hO3.cell 2; have z2 := hO3.frozen 2; simp only [fsCells, List.getElem?_toArray, List.getElem?_cons_zero, List.getElem?_cons_succ] at t2; clear hO3))
          all_goals
            have HX := Lib.hid (spI_if (X := X) (j := j) H.out hgl0 (HG9.out.alloc _) (HRes9.out.alloc _) (HO9.out.alloc _) (HR9.out.alloc _) hown2 hgrow2 hpj HOne.out)
            clear hown2 hgrow2
            go_wp2_with fail
            go_roundw
            case rel => exact ⟨j + 1, _, by omega, by go_num, rfl, HX⟩
            case measure => simp [intOf]; omega
    · obtain rfl : j = ks.length := by omega
      obtain ⟨go, Ao, p, cp, oo, ex, tx, rfl, hspo⟩ := HJ.out hpos
      obtain ⟨hgl0, hO, ⟨xs, hrow⟩, hpj, hone⟩ := hspo
      have HO := Lib.hid hO
      have HOne := Lib.hid hone
      have HF := Lib.hid (fs_one Ao p cp oo ex tx hone)
      clear hO hrow hone
      go_wp2_with (first | refine wpList_load_row rfl 179 (.tmp 81) rfl go rfl 179 (fsCells Ao p cp oo ex tx) (0, 0) _ HO.out Try.underlying179 rfl size_fs ?_ | refine wpList_store_row rfl 179 (.tmp 4) (.tmp 82) rfl w.heap.size (fsCells Ao p cp oo ex tx) rfl rfl 179 _ HRes.out size_fs rfl HF.out ?_)
      refine bodyPost_ret (results_cell_row Try.results62 _ _ w.heap.size 179 _ (0, 0) _ rfl HRes.out.setRow Try.underlying179 rfl size_fs) rfl ⟨⟨_, _, _, _, _, _, rfl, HOne.out⟩, HG.out.setRow H.out (Nat.le_refl _) _⟩
end Go.Proofs.Ytdhhdnopilfifaa
