/-
  EnforceMaxBlankLines of one element, and impl.MaxBlanks: as many blank lines as are allowed at most; all else stays.
-/
import Derived.Test.YthinfliplpjdjaaSame
namespace Go.Proofs.Ythinfliplpjdjaa
open Go.RowKit

set_option maxRecDepth 100000 in
theorem fodEl_keep (g p : Nat) (k b most : Int) (v1 v2 : Value) (w : World) (hk : (k != 1) = true) (hb : ¬ most < b)
    (c1 : w.cell? ⟨g, 1, none⟩ = some (.int .i64 k)) (c2 : w.cell? ⟨g, 2, none⟩ = some (.int .i64 b)) (cm : w.cell? ⟨p, 1, none⟩ = some (.int .i64 most)) :
    Calls Try.prog 35 #[.pointer (some ⟨p, 0, none⟩), v1, .pointer (some ⟨g, 0, none⟩), v2] w fun e w' => e = .returned (.tuple #[]) ∧ ∃ m, w' = w.drewN m := by
  go_enter Try.func35, Try.ntmps35
  go_wp2
  go_quiet (fail)
  go_wp2
  go_end0
  exact ⟨rfl, _, rfl⟩

set_option maxRecDepth 100000 in
theorem fodEl_cut (g p : Nat) (k b most : Int) (v1 v2 : Value) (w : World) (hk : (k != 1) = true) (hb : most < b)
    (c1 : w.cell? ⟨g, 1, none⟩ = some (.int .i64 k)) (c2 : w.cell? ⟨g, 2, none⟩ = some (.int .i64 b)) (cm : w.cell? ⟨p, 1, none⟩ = some (.int .i64 most)) (hf : w.frozen? ⟨g, 2, none⟩ = false) :
    Calls Try.prog 35 #[.pointer (some ⟨p, 0, none⟩), v1, .pointer (some ⟨g, 0, none⟩), v2] w fun e w' => e = .returned (.tuple #[]) ∧ ∃ m, w' = (w.setCell ⟨g, 2, none⟩ (.int .i64 most)).drewN m := by
  go_enter Try.func35, Try.ntmps35
  go_wp2
  go_quiet (fail)
  go_wp2
  go_end0
  exact ⟨rfl, _, rfl⟩

/-- As many blank lines as are allowed. -/
def cutTo (most b : Int) : Int := if most < b then most else b
/-- What impl.MaxBlanks leaves. -/
def MBPost (k bb i : Int) (n : Nat) (cs : List ByteArray) (w : World) (e : Ending) (w' : World) : Prop :=
  ∃ A' c', e = .returned (.tuple #[.agg #[.int .i64 k, .int .i64 bb, .int .i64 i, .slice A' n c'], .bool true]) ∧ w'.ownsRow w.heap.size 9 1 (.slice A' n c') n (cs.map Value.string) ∧ Below w.heap.size w w'
theorem own_base {w : World} {base base' : Nat} {e : TypeId} {size : Nat} {v : Value} {n : Nat} {xs : List Value} (h : w.ownsRow base e size v n xs) (hb : base' ≤ base) : w.ownsRow base' e size v n xs := by
  refine ⟨h.1, ?_⟩
  rcases h.2 with h2 | ⟨g, cap, cur, hv, hg, r⟩
  · exact .inl h2
  · exact .inr ⟨g, cap, cur, hv, Nat.le_trans hb hg, r⟩
theorem grownBy_drewN {w w' : World} {row : Option Nat} (h : w.grownBy w' row) (n : Nat) : w.grownBy (w'.drewN n) row := ⟨h.os, h.tape, h.output, h.size, h.block⟩
theorem fodEl_any (g p cap base n : Nat) (A : Option Addr) (c : Nat) (k b i most : Int) (v1 v2 : Value) (w : World) (hk : (k != 1) = true) (hown : w.ownsRow base 74 4 (.slice (some ⟨g, 0, none⟩) 1 cap) 1 [.slice A n c, .int .i64 k, .int .i64 b, .int .i64 i])
    (cm : w.cell? ⟨p, 1, none⟩ = some (.int .i64 most)) :
    Calls Try.prog 35 #[.pointer (some ⟨p, 0, none⟩), v1, .pointer (some ⟨g, 0, none⟩), v2] w fun e w' => e = .returned (.tuple #[]) ∧ w.grownBy w' (some g) ∧
      w'.ownsRow base 74 4 (.slice (some ⟨g, 0, none⟩) 1 cap) 1 [.slice A n c, .int .i64 k, .int .i64 (cutTo most b), .int .i64 i] := by
  have k1 : w.cell? ⟨g, 1, none⟩ = some (.int .i64 k) := hown.cellAt 1 (by omega)
  have k2 : w.cell? ⟨g, 2, none⟩ = some (.int .i64 b) := hown.cellAt 2 (by omega)
  by_cases hmb : most < b
  · refine (fodEl_cut g p k b most v1 v2 w hk hmb k1 k2 cm (hown.frozenAt 2)).mono ?_
    rintro e w' ⟨rfl, m, rfl⟩
    have hst := hown.stored 2 (.int .i64 most)
    rw [cutTo, if_pos hmb]
    exact ⟨rfl, grownBy_drewN hst.2 m, hst.1⟩
  · refine (fodEl_keep g p k b most v1 v2 w hk hmb k1 k2 cm).mono ?_
    rintro e w' ⟨rfl, m, rfl⟩
    rw [cutTo, if_neg hmb]
    exact ⟨rfl, grownBy_drewN (World.grownBy.refl w _) m, hown⟩
theorem Fod.len {w : World} {base : Nat} {v : Value} {fs : List CE} (h : Fod w base v fs) : ∀ e ∈ fs, e.cs.length = e.n := fun e he => by
  have := (h.2 e he).1
  simpa using this
theorem fod_one {w : World} {base : Nat} {v : Value} {fs : List CE} {k b i : Int} {cs : List ByteArray} (h : Fod w base v fs) (hs : fs.map CE.say = [(k, b, i, cs)]) :
    ∃ g cap A n c, v = .slice (some ⟨g, 0, none⟩) 1 cap ∧ base ≤ g ∧ g < w.heap.size ∧ w.ownsRow base 74 4 (.slice (some ⟨g, 0, none⟩) 1 cap) 1 [.slice A n c, .int .i64 k, .int .i64 b, .int .i64 i] ∧
      w.ownsRow base 9 1 (.slice A n c) n (cs.map Value.string) ∧ cs.length = n := by
  match fs, hs with
  | [e], hs =>
    simp only [List.map_cons, List.map_nil, List.cons.injEq, and_true, CE.say, Prod.mk.injEq] at hs
    obtain ⟨rfl, rfl, rfl, rfl⟩ := hs
    obtain ⟨h1, h2⟩ := h
    obtain ⟨g, cap, rfl, hb, hlt⟩ := h1.form (by simp)
    exact ⟨g, cap, e.A, e.n, e.c, rfl, hb, hlt, by simpa [cellsF] using h1, h2 e (by simp), by simpa using (h2 e (by simp)).1⟩

theorem elo_one {w : World} {base : Nat} {v : Value} {fs : List CE} {k b i : Int} {cs : List ByteArray} (h : Elo w base v fs) (hs : fs.map CE.say = [(k, b, i, cs)]) :
    ∃ g cap A n c, v = .slice (some ⟨g, 0, none⟩) 1 cap ∧ base ≤ g ∧ g < w.heap.size ∧ w.ownsRow base 24 4 (.slice (some ⟨g, 0, none⟩) 1 cap) 1 [.int .i64 k, .int .i64 b, .int .i64 i, .slice A n c] ∧
      w.ownsRow base 9 1 (.slice A n c) n (cs.map Value.string) ∧ cs.length = n := by
  match fs, hs with
  | [e], hs =>
    simp only [List.map_cons, List.map_nil, List.cons.injEq, and_true, CE.say, Prod.mk.injEq] at hs
    obtain ⟨rfl, rfl, rfl, rfl⟩ := hs
    obtain ⟨h1, h2⟩ := h
    obtain ⟨g, cap, rfl, hb, hlt⟩ := h1.form (by simp)
    exact ⟨g, cap, e.A, e.n, e.c, rfl, hb, hlt, by simpa [cellsE] using h1, h2 e (by simp), by simpa using (h2 e (by simp)).1⟩

set_option maxRecDepth 100000 in
set_option maxHeartbeats 800000 in
theorem maxBlanks_any (k b i most : Int) (A : Option Addr) (n c : Nat) (cs : List ByteArray) (B : Nat) (w : World) (h : Strs w B A n cs) (hB : B ≤ w.heap.size) (hn : n ≤ 2147483647)
    (hk0 : 0 ≤ k) (hk2 : k ≤ 2) (hk1 : (k != 1) = true) :
    Calls Try.prog 11 #[.agg #[.int .i64 k, .int .i64 b, .int .i64 i, .slice A n c], .int .i64 most] w (MBPost k (cutTo most b) i n cs w) := by
  have HH := Lib.hid h
  clear h
  go_enter Try.func11, Try.ntmps11
  go_wp2_with fail

  refine (fodder_any (some ⟨w.heap.size + 2, 0, none⟩) 1 1 [⟨k, b, i, A, n, c, cs⟩] (w.heap.size + 3) _ ?_ (by simp) (by omega) ?_ ?_).mono ?_
  · refine ⟨rfl, ?_, ?_⟩
    · have hb := heap_alloc_new ((w.alloc (.cells #[.int .i64 k, .int .i64 b, .int .i64 i, .slice A n c] 24)).alloc (.cells #[.int .i64 0, .int .i64 0, .int .i64 0, .slice none 0 0] 24)) (.cells #[.int .i64 k, .int .i64 b, .int .i64 i, .slice A n c] 24)
      simp only [World.size_alloc] at hb
      exact Reads.ofBlock hb rfl (by omega)
    · intro e he
      simp only [List.mem_singleton] at he
      subst he
      exact Reads.more (((HH.out.alloc hB _).alloc (by simp; omega) _).alloc (by simp; omega) _) (by omega)
  · simpa using ⟨hk0, hk2⟩
  · simpa using hn
  rintro e w1 ⟨v, fs, rfl, hb1, hf1, hs1⟩
  obtain ⟨g, cap, A1, n1, c1, rfl, hg1, hg2, hown, hcom, hl⟩ := fod_one hf1 hs1
  clear hf1 hs1
  have hz1 : w.heap.size + 3 ≤ w1.heap.size := by have := hb1.size; simpa using this
  have hsep := Lib.hid (own_own_ne hcom hown (by decide))
  have HO := Lib.hid hown
  have HC := Lib.hid hcom
  have HB1 := Lib.hid hb1
  clear hown hcom hb1
  go_wp2_with fail
  refine (fodEl_any g _ cap _ n1 A1 c1 k b i most _ _ _ hk1 (HO.out.alloc _) ?_).mono ?_
  · simp [go_sem]
  rintro e w2 ⟨rfl, hg2, hown2⟩
  have HO2 := Lib.hid hown2
  have HG2 := Lib.hid hg2
  clear hown2 hg2
  go_wp2_with fail
  refine (elements_any (some ⟨g, 0, none⟩) 1 cap [⟨k, cutTo most b, i, A1, n1, c1, cs⟩] w2.heap.size _ ?_ (Nat.le_refl _) (by omega) ?_).mono ?_
  · refine ⟨rfl, ?_, ?_⟩
    · simpa [cellsF] using Reads.of_own HO2.out
    · intro e he
      simp only [List.mem_singleton] at he
      subst he
      exact Reads.of_own ((HC.out.alloc _).kept HG2.out hsep.out)
  · simpa [← hl, HH.out.len] using hn
  rintro e w3 ⟨v3, fs3, rfl, hb3, hf3, hs3⟩
  obtain ⟨g3, cap3, A3, n3, c3, rfl, _, _, hown3, hcom3, hl3⟩ := elo_one hf3 hs3
  have q0 : w3.cell? ⟨g3, 0, none⟩ = some (.int .i64 k) := hown3.cellAt 0 (by omega)
  have q1 : w3.cell? ⟨g3, 1, none⟩ = some (.int .i64 (cutTo most b)) := hown3.cellAt 1 (by omega)
  have q2 : w3.cell? ⟨g3, 2, none⟩ = some (.int .i64 i) := hown3.cellAt 2 (by omega)
  have q3 : w3.cell? ⟨g3, 3, none⟩ = some (.slice A3 n3 c3) := hown3.cellAt 3 (by omega)
  have HC3 := Lib.hid hcom3
  have hBk : Blk w3 (w.heap.size + 1) 24 #[.int .i64 0, .int .i64 0, .int .i64 0, .slice none 0 0] := by
    have b0 : Blk ((w.alloc (.cells #[.int .i64 k, .int .i64 b, .int .i64 i, .slice A n c] 24)).alloc (.cells #[.int .i64 0, .int .i64 0, .int .i64 0, .slice none 0 0] 24)) (w.heap.size + 1) 24 #[.int .i64 0, .int .i64 0, .int .i64 0, .slice none 0 0] := by
      have := Blk.new (w.alloc (.cells #[.int .i64 k, .int .i64 b, .int .i64 i, .slice A n c] 24)) 24 #[.int .i64 0, .int .i64 0, .int .i64 0, .slice none 0 0]
      simpa using this
    have b1 := ((b0.alloc _).below HB1.out (by simp)).alloc (.cells #[.int .i64 0, .int .i64 most, .int .i64 0, .int .i64 0, .bool false, .bool false, .bool false, .bool false, .bool false, .bool false, .bool false, .bool false] 69)
    have b2 := b1.grown HG2.out (by simp at hg1; simp; omega)
    exact b2.below hb3 b2.lt
  have r0 := hBk.cell 0
  have r1 := hBk.cell 1
  have r2 := hBk.cell 2
  have r3 := hBk.cell 3
  have rf := hBk.frozen
  simp only [List.getElem?_toArray] at r0 r1 r2 r3
  have hbel : Below w.heap.size w w3 := by
    have hs2 := HG2.out.size
    refine Below.trans ?_ (hb3.mono (by simp at hs2; omega))
    refine Below.grown (Below.alloc (Below.trans ((((Below.refl _ _).alloc (Nat.le_refl _) _).alloc (by simp) _).alloc (by simp; omega) _) (HB1.out.mono (by simp; omega))) (by omega) _) HG2.out (by simp; omega) ?_
    intro j hj
    have : g = j := by simpa using hj
    simp at hg1; omega
  have HB := Lib.hid hbel
  have HBK := Lib.hid hBk
  clear hf3 hs3 hown3 hcom3 hb3 hBk hbel
  go_wp2
  refine bodyPost_ret (v := .tuple #[.agg #[.int .i64 k, .int .i64 (cutTo most b), .int .i64 i, .slice A3 n3 c3], .bool true]) (by simp [results, Try.results11, go_sem, r0, r1, r2, r3]) rfl ?_
  have hws : w.heap.size ≤ w2.heap.size := by have := HG2.out.size; simp at this; omega
  obtain rfl : n3 = n := by rw [← hl3, HH.out.len]
  have hne := own_blk_ne HC3.out HBK.out (by decide)
  refine ⟨A3, c3, rfl, own_base (ownsRow_setCell_other (ownsRow_setCell_other (ownsRow_setCell_other (ownsRow_setCell_other HC3.out hne _) hne _) hne _) hne _) hws, ?_⟩
  exact (((HB.out.setCell (by show _ ≤ w.heap.size + 1; omega) _).setCell (by show _ ≤ w.heap.size + 1; omega) _).setCell (by show _ ≤ w.heap.size + 1; omega) _).setCell (by show _ ≤ w.heap.size + 1; omega) _
end Go.Proofs.Ythinfliplpjdjaa
