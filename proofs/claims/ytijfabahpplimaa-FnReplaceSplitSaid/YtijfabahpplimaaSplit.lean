/-
  builtinSplitLimit without a limit, strsOf, impl.TextSplitLimit: the parts of a text.
-/
import Derived.Test.YtijfabahpplimaaSplitOps
namespace Go.Proofs.Ytijfabahpplimaa
open Go.RowKit Ieee

theorem take_set_snoc {α : Type} (l : List α) (j : Nat) (u : α) (h : j < l.length) : (l.set j u).take (j + 1) = l.take j ++ [u] := by
  rw [List.take_add_one, List.take_set_of_le (Nat.le_refl j)]
  simp [h]

def SplitPost (l : List ByteArray) (w : World) (e : Ending) (w' : World) : Prop := ∃ v, e = .returned (.tuple #[v, .nilIface]) ∧ ArrS w' w'.heap.size v l ∧ Below w.heap.size w w'
theorem own_sl {w : World} {base e n : Nat} {v : Value} {xs : List Value} (h : w.ownsRow base e 1 v n xs) (hn : 0 < n) : ∃ g c, v = .slice (some ⟨g, 0, none⟩) n c := by
  rcases h.2 with ⟨rfl, rfl⟩ | ⟨g, cap, cur, rfl, _⟩
  · have := h.1
    simp at this
    omega
  · exact ⟨g, cap, rfl⟩

theorem own_full {w : World} {e n : Nat} {cur : Array Value} (hc : cur.size = n * 1) (hn : n ≤ maxLen) : (w.alloc (.cells cur e)).ownsRow w.heap.size e 1 (.slice (some ⟨w.heap.size, 0, none⟩) n n) n cur.toList :=
  ⟨by simpa using hc, .inr ⟨w.heap.size, n, cur, rfl, Nat.le_refl _, heap_alloc_new w _, Nat.le_refl _, hn, hc, List.take_of_length_le (by simp; omega)⟩⟩
theorem split_step {H gv j : Nat} {wr w2 : World} {x : ByteArray} {xs : List Value} {l : List ByteArray} (hH : H < wr.heap.size) (hth : ThSs wr (H + 1) wr.heap.size (xs.take j) (l.take j)) (e1 : l.take (j + 1) = l.take j ++ [x]) (hj : j < xs.length)
    (hg : GoL w2 wr.heap.size w2.heap.size (.iface 128 (.pointer (some ⟨gv, 0, none⟩))) x) (hb2 : Below wr.heap.size wr w2) (W : World) (hW : w2.alloc (.cells #[.pointer none, .nilIface, .iface 128 (.pointer (some ⟨gv, 0, none⟩)), .nilIface] 113) = W) :
    ThSs (W.setCell ⟨H, j, none⟩ (.pointer (some ⟨w2.heap.size, 0, none⟩))) (H + 1) (W.setCell ⟨H, j, none⟩ (.pointer (some ⟨w2.heap.size, 0, none⟩))).heap.size ((xs.set j (.pointer (some ⟨w2.heap.size, 0, none⟩))).take (j + 1)) (l.take (j + 1)) := by
  subst hW
  have hs := hb2.size
  have hbw : Below wr.heap.size wr (w2.alloc (.cells #[.pointer none, .nilIface, .iface 128 (.pointer (some ⟨gv, 0, none⟩)), .nilIface] 113)) := hb2.alloc hs _
  have hsz : ((w2.alloc (.cells #[.pointer none, .nilIface, .iface 128 (.pointer (some ⟨gv, 0, none⟩)), .nilIface] 113)).setCell ⟨H, j, none⟩ (.pointer (some ⟨w2.heap.size, 0, none⟩))).heap.size = w2.heap.size + 1 := by simp [World.setCell]
  rw [take_set_snoc _ _ _ hj, e1, hsz]
  refine ThSs.snoc ?_ ?_
  · exact ((hth.below hbw (Nat.le_refl _)).more (by omega) (Nat.le_refl _)).far (by simp) _
  · refine ThS.far ?_ (by simp) _
    have hb3 : Below w2.heap.size w2 (w2.alloc (.cells #[.pointer none, .nilIface, .iface 128 (.pointer (some ⟨gv, 0, none⟩)), .nilIface] 113)) := (Below.refl _ _).alloc (Nat.le_refl _) _
    exact ⟨w2.heap.size, _, rfl, by omega, by omega, Blk.new w2 _ _, (hg.below hb3 (Nat.le_refl _)).more (by omega) (by omega)⟩
set_option maxRecDepth 100000 in
set_option maxHeartbeats 1600000 in
theorem splitLimit_any (i v1 v2 : Value) (g3 : Nat) (s f : ByteArray) (l : List ByteArray) (w : World) (h1 : GoS w w.heap.size v1 s) (h2 : GoS w w.heap.size v2 f) (h3 : w.cell? ⟨g3, 0, none⟩ = some (.float .f64 13830554455654793216)) (hs : s.size ≤ 2000) (h0 : 0 < f.size) (hf : f.size ≤ 2000)
    (hl : parts f (s.size + 1) s = l) (hT : ∀ p ∈ l, Txt p) (hn : 0 < l.length ∧ l.length ≤ 2001) :
    Calls Try.prog 28 #[i, v1, v2, .iface 91 (.pointer (some ⟨g3, 0, none⟩))] w (SplitPost l w) := by
  obtain ⟨g1, rfl, k1⟩ := h1.call (Nat.le_refl _)
  obtain ⟨g2, rfl, k2⟩ := h2.call (Nat.le_refl _)
  have K1 := Lib.hid k1
  have K2 := Lib.hid k2
  have GI := Lib.hid (fun w' (hc : w'.cell? ⟨g3, 0, none⟩ = some (.float .f64 13830554455654793216)) => getInt_m1 i g3 w' hc)
  have KS := Lib.hid (zzSplitN_any s f l hs h0 hf hl)
  have HT := Lib.hid hT
  have q2 := method_getGoString
  obtain ⟨n, hnl⟩ : ∃ n, l.length = n := ⟨_, rfl⟩
  obtain ⟨i0, hi, hz, hsz, hb⟩ := info_parts info_thp
  have hmk : ∀ w : World, (Instr.makeSlice 104 (.int .i64 (n : Int)) (.int .i64 (n : Int))).run Try.prog w = .ok (.slice (some ⟨w.heap.size, 0, none⟩) n n) (w.alloc (.cells (madeCells (Value.pointer none).cells (n * i0.size)) 108)) := fun w => by
    have := run_make (P := Try.prog) w 104 108 i0 _ Try.underlying104 hi hz .i64 .i64 n n (by omega) (Int.le_refl _) (by rw [hb]; omega) (by omega)
    simpa using this
  have hcs : (madeCells (Value.pointer none).cells (n * i0.size)).size = n * 1 := by rw [size_madeCells, hsz]
  generalize madeCells (Value.pointer none).cells (n * i0.size) = cur at *
  have HCS := Lib.hid hcs
  have HN := Lib.hid hnl
  have hn1 : 0 < n := by omega
  have hn2 : n ≤ 2001 := by omega
  clear h1 h2 k1 k2 hl hT hcs hnl hi hz hsz hb hn
  go_enter Try.func28, Try.ntmps28
  go_wp2_with (first
    | (go_at_call 31; refine (getString_any _ _ _).mono ?_; rintro e w' ⟨rfl, rfl⟩)
    | (go_at_call 36; refine (GI.out _ h3).mono ?_; rintro e w' ⟨rfl, rfl⟩))
  refine K1.out.mono ?_
  rintro e w' ⟨rfl, rfl⟩
  go_wp2_with fail
  refine K2.out.mono ?_
  rintro e w' ⟨rfl, rfl⟩
  go_wp2_with fail
  refine (KS.out _).mono ?_
  rintro e w1 ⟨v, rfl, ho, hb1⟩
  have ho' := ho
  rw [HN.out] at ho'
  obtain ⟨gs, cs, rfl⟩ := own_sl ho' hn1
  have HO := Lib.hid ho'
  have HB1 := Lib.hid hb1
  clear ho ho' hb1
  go_wp2_with fail
  have hown0 := own_full (w := w1) (e := 108) HCS.out (by unfold maxLen; omega)
  go_loopw [74] (fun t wr => ∃ (j : Nat) (xs : List Value), j ≤ n ∧ t = .int .i64 j ∧ Below w1.heap.size w1 wr ∧ wr.ownsRow w1.heap.size 108 1 (.slice (some ⟨w1.heap.size, 0, none⟩) n n) n xs ∧ Hid (ThSs wr (w1.heap.size + 1) wr.heap.size (xs.take j) (l.take j))) (fun t _ => n - (intOf t).toNat)
  case atStart => exact ⟨0, cur.toList, Nat.zero_le _, rfl, (Below.refl _ _).alloc (Nat.le_refl _) _, hown0, Lib.hid (ThSs.nil _ _ _)⟩
  case round =>
    obtain ⟨j, xs, hj, rfl, hbel, hown, HTH⟩ := hrel
    have HOW := Lib.hid hown
    have HBL := Lib.hid hbel
    have hbs := hbel.size
    clear hown hbel
    by_cases hlt : j < n
    · obtain ⟨ad, u, hA, hbk, hpj, hc0⟩ := (Reads.of_own HO.out).at_ hlt
      injection hA with hA
      subst hA
      have hjl : j < l.length := by rw [HN.out]; exact hlt
      obtain rfl : u = .string l[j] := by
        simp only [strV, List.getElem?_map, List.getElem?_eq_getElem hjl, Option.map_some, Option.some.injEq] at hpj
        exact hpj.symm
      have hc := (HBL.out.cell (p := (⟨gs, 0, none⟩ : Addr).add j) (by rw [block_of_add]; exact hbk)).trans hc0
      have e0 : (⟨gs, 0, none⟩ : Addr).add j = ⟨gs, j, none⟩ := by simp [Addr.add]; omega
      rw [e0] at hc
      have HTX := Lib.hid (HT.out _ (List.getElem_mem hjl))
      have E1 := Lib.hid (List.take_succ_eq_append_getElem hjl)
      clear hpj hc0 e0 hbk
      generalize l[j] = x at *
      go_wp2_with fail
      refine (mkString_lo x HTX.out _).mono ?_
      rintro e w2 ⟨v2, rfl, hg2, hb2⟩
      obtain ⟨gv, rfl⟩ : ∃ gv : Nat, v2 = .iface 128 (.pointer (some ⟨gv, 0, none⟩)) := by
        obtain ⟨_, g, _, _, _, h, _⟩ := hg2
        exact ⟨g, h⟩
      obtain ⟨T, hTdef⟩ : ∃ T, Obj.cells #[.pointer none, .nilIface, .iface 128 (.pointer (some ⟨gv, 0, none⟩)), .nilIface] 113 = T := ⟨_, rfl⟩
      have HG2 := Lib.hid hg2
      have HB2 := Lib.hid hb2
      have hbs2 := hb2.size
      have hbw : Below wr.heap.size wr (w2.alloc T) := hb2.alloc hbs2 _
      have HBW := Lib.hid hbw
      have hown2 := own_below HOW.out hbw
      have HOW2 := Lib.hid hown2
      have hxl : j < xs.length := by have := HOW.out.1; omega
      have hc1 : (w2.alloc T).cell? ⟨w1.heap.size, j, none⟩ = some xs[j] := by
        rw [hown2.cellAt j (by omega), List.getElem?_eq_getElem hxl]
      have hf1 : (w2.alloc T).frozen? ⟨w1.heap.size, j, none⟩ = false := hown2.frozenAt _
      generalize xs[j] = old at hc1
      subst hTdef
      clear hg2 hb2 hbw hown2
      go_wp2_with (go_at_call 38; refine (thunk_any _ _ _).mono ?_; rintro e w' ⟨rfl, rfl⟩)
      have hH := (HOW.out.lt w1.heap.size rfl).2
      have R := split_step hH HTH.out E1.out hxl HG2.out HB2.out _ rfl
      have hb3 : Below w1.heap.size w1 ((w2.alloc (.cells #[.pointer none, .nilIface, .iface 128 (.pointer (some ⟨gv, 0, none⟩)), .nilIface] 113)).setCell ⟨w1.heap.size, j, none⟩ (.pointer (some ⟨w2.heap.size, 0, none⟩))) := (HBL.out.trans (HBW.out.mono hbs)).setCell (p := ⟨w1.heap.size, j, none⟩) (Nat.le_refl _) _
      go_roundw
      case rel => exact ⟨j + 1, _, by omega, by go_num, hb3, (HOW2.out.stored j _).1, Lib.hid R⟩
      case measure => simp [intOf]; omega
    · obtain rfl : j = n := by omega
      have hxl : xs.length = j := by have := HOW.out.1; omega
      have hlen : l.length = j := HN.out
      have R := HTH.out
      rw [List.take_of_length_le (by omega), List.take_of_length_le (by omega)] at R
      have HR := Lib.hid R
      have HX := Lib.hid hxl
      clear R hxl hlen
      go_wp2_with (go_at_call 39; refine (mkArrN_any _ _ _).mono ?_; rintro e w' ⟨rfl, rfl⟩)
      go_ret2
      have hb4 : Below wr.heap.size wr (wr.alloc (.cells #[.slice (some ⟨w1.heap.size, 0, none⟩) j j] 106)) := (Below.refl _ _).alloc (Nat.le_refl _) _
      have hrd := Reads.of_own HOW.out
      refine ⟨_, rfl, ⟨wr.heap.size, some ⟨w1.heap.size, 0, none⟩, j, xs, rfl, by simp, ?_, ?_, (HR.out.below hb4 (Nat.le_refl _)).more (by simp) (by omega)⟩, ?_⟩
      · rw [HN.out]; exact Blk.new wr _ _
      · rw [HN.out]
        exact (hrd.below hb4).more (by simp)
      · exact (HB1.out.trans (HBL.out.mono HB1.out.size)).alloc (Nat.le_trans HB1.out.size hbs) _
end Go.Proofs.Ytijfabahpplimaa
