/-
  impl.elements: it makes elements out of fodder: the same kinds, blank lines, indents and comments, in new memory.
-/
import Derived.Test.YthinfliplpjdjaaFodder
namespace Go.Proofs.Ythinfliplpjdjaa
open Go.RowKit

/-- Fodder that is read. -/
def FodR (w : World) (B : Nat) (A : Option Addr) (n : Nat) (es : List CE) : Prop :=
  es.length = n ∧ Reads w B 4 A n (es.flatMap cellsF) ∧ ∀ e ∈ es, Strs w B e.A e.n e.cs
/-- A slice of elements that the call owns, and owns the comments of. -/
def Elo (w : World) (base : Nat) (v : Value) (es : List CE) : Prop :=
  w.ownsRow base 24 4 v es.length (es.flatMap cellsE) ∧ ∀ e ∈ es, w.ownsRow base 9 1 (.slice e.A e.n e.c) e.n (e.cs.map Value.string)

theorem FodR.at_ {w : World} {B : Nat} {A : Option Addr} {n : Nat} {es : List CE} (h : FodR w B A n es) {k : Nat} (hk : k < n) :
    ∃ b o e, A = some ⟨b, o, none⟩ ∧ b < B ∧ es[k]? = some e ∧ Strs w B e.A e.n e.cs ∧ w.cell? ⟨b, o + k * 4, none⟩ = some (.slice e.A e.n e.c) ∧ w.cell? ⟨b, o + k * 4 + 1, none⟩ = some (.int .i64 e.k) ∧
      w.cell? ⟨b, o + k * 4 + 2, none⟩ = some (.int .i64 e.b) ∧ w.cell? ⟨b, o + k * 4 + 3, none⟩ = some (.int .i64 e.i) := by
  obtain ⟨hl, hr, hs⟩ := h
  obtain ⟨ad, hA, hb, hc⟩ := hr.2 (by omega)
  have hkl : k < es.length := by omega
  have hke := List.getElem?_eq_getElem hkl
  have g := fun j (hj : j < 4) => flatMap_get4 cellsF (fun _ => rfl) es k j _ hke hj
  obtain ⟨b, o, spot⟩ := ad
  have c0 := hc (0 * 4 + 0) _ (flatMap_get4 cellsF (fun _ => rfl) es 0 0 _ (List.getElem?_eq_getElem (show 0 < es.length by omega)) (by omega))
  obtain rfl : spot = none := by simpa [Addr.add] using World.cell?_spot c0
  have e0 := hc (k * 4 + 0) _ (g 0 (by omega))
  have e1 := hc (k * 4 + 1) _ (g 1 (by omega))
  have e2 := hc (k * 4 + 2) _ (g 2 (by omega))
  have e3 := hc (k * 4 + 3) _ (g 3 (by omega))
  simp only [Addr.add_lit, ← Nat.add_assoc, Nat.add_zero] at e0 e1 e2 e3
  exact ⟨b, o, es[k], hA, hb, hke, hs _ (List.getElem_mem _), e0, e1, e2, e3⟩

theorem elo_step {w wr w1 w2 : World} {O1 O2 O3 : Obj} {v : Value} {fs : List CE} {e : CE} {g1 cap1 g2 cap2 : Nat} (hbel : Below w.heap.size w wr) (hfod : Elo wr w.heap.size v fs)
    (hown1 : w1.ownsRow w.heap.size 9 1 (.slice (some ⟨g1, 0, none⟩) e.n cap1) e.n (e.cs.map Value.string))
    (hgrow1 : ((wr.alloc O1).alloc O2).drew.grownBy w1 (some (wr.heap.size + 1)))
    (hown2 : w2.ownsRow w.heap.size 24 4 (.slice (some ⟨g2, 0, none⟩) (fs.length + 1) cap2) (fs.length + 1) (fs.flatMap cellsE ++ [.int .i64 e.k, .int .i64 e.b, .int .i64 e.i, .slice (some ⟨g1, 0, none⟩) e.n cap1]))
    (hgrow2 : (w1.alloc O3).grownBy w2 v.ownBlock) :
    Below w.heap.size w w2 ∧ Elo w2 w.heap.size (.slice (some ⟨g2, 0, none⟩) (fs.length + 1) cap2) (fs ++ [⟨e.k, e.b, e.i, some ⟨g1, 0, none⟩, e.n, cap1, e.cs⟩]) := by
  have hs := hbel.size
  have hz1 := hgrow1.size
  have hz1' : wr.heap.size + 2 ≤ w1.heap.size := by simpa using hz1
  have hv : (w1.alloc O3).ownsRow w.heap.size 24 4 v fs.length (fs.flatMap cellsE) := ((((hfod.1.alloc _).alloc _).drew).kept hgrow1 (own_far hfod.1 (by omega))).alloc _
  refine ⟨?_, ?_, ?_⟩
  · refine Below.grown ((Below.grown (((hbel.alloc (by omega) O1).alloc (by simp; omega) O2).drew) hgrow1 (by simp; omega) ?_).alloc (by omega) O3) hgrow2 (by simp; omega) ?_
    · rintro k hk
      have : wr.heap.size + 1 = k := by simpa using hk
      omega
    · exact fun k hk => (hfod.1.lt k hk).1
  · simpa [cellsE] using hown2
  · intro x hx
    rw [List.mem_append] at hx
    rcases hx with hx | hx
    · have hx1 := hfod.2 x hx
      have hx2 := ((((hx1.alloc O1).alloc O2).drew).kept hgrow1 (own_far hx1 (by omega))).alloc O3
      exact hx2.kept hgrow2 (own_own_ne hx2 hv (by decide))
    · simp only [List.mem_singleton] at hx
      subst hx
      have hx2 := hown1.alloc O3
      exact hx2.kept hgrow2 (own_own_ne hx2 hv (by decide))

set_option maxRecDepth 100000 in
set_option maxHeartbeats 1600000 in
theorem elements_any (A : Option Addr) (n c : Nat) (es : List CE) (B : Nat) (w : World) (h : FodR w B A n es) (hB : B ≤ w.heap.size) (hn : n ≤ 2147483647)
    (hne : ∀ e ∈ es, e.n ≤ 2147483647) :
    Calls Try.prog 36 #[.slice A n c] w fun e w' => ∃ v fs, e = .returned v ∧ Below w.heap.size w w' ∧ Elo w' w.heap.size v fs ∧ fs.map CE.say = es.map CE.say := by
  have HH := Lib.hid h
  clear h
  obtain ⟨i9, hi9, hz9, hs9, hb9⟩ := info_parts info_string
  obtain ⟨i74, hi74, hz74, hs74, hb74⟩ := info_parts info_el
  go_enter Try.func36, Try.ntmps36
  go_wp2
  go_loopw [3, 8] (fun v t wr => ∃ j : Nat, j ≤ n ∧ t = .int .i64 j ∧ Below w.heap.size w wr ∧ ∃ fs, Elo wr w.heap.size v fs ∧ fs.map CE.say = (es.take j).map CE.say) (fun _ t _ => n - (intOf t).toNat)
  case atStart => exact ⟨0, Nat.zero_le _, rfl, Below.refl _ _, [], ⟨World.ownsRow_nil _ _ _ _, fun _ h => by cases h⟩, rfl⟩
  case round =>
    obtain ⟨j, hj, rfl, hbel, fs, hfod, hsay⟩ := hrel
    by_cases hlt : j < n
    · obtain ⟨b, o, e, rfl, hb, hej, hstr, c0, c1, c2, c3⟩ := HH.out.at_ hlt
      have d0 := (hbel.cell (p := ⟨b, o + j * 4, none⟩) (by show b < _; omega)).trans c0
      have d1 := (hbel.cell (p := ⟨b, o + j * 4 + 1, none⟩) (by show b < _; omega)).trans c1
      have d2 := (hbel.cell (p := ⟨b, o + j * 4 + 2, none⟩) (by show b < _; omega)).trans c2
      have d3 := (hbel.cell (p := ⟨b, o + j * 4 + 3, none⟩) (by show b < _; omega)).trans c3
      clear c0 c1 c2 c3
      have HE := Lib.hid hej
      have HF := Lib.hid hfod
      have HY := Lib.hid hsay
      have hen : e.n ≤ 2147483647 := hne e (List.mem_of_getElem? hej)
      clear hej hfod hsay hne
      have hbs := hbel.size
      have hbel' : Below B w wr := hbel.mono hB
      go_wp2
      have hstr' := hstr.below hbel'
      have hown := HF.out.1
      have hfar : some wr.heap.size ≠ u3.ownBlock := by
        rcases own_far hown (Nat.le_refl _) with h | h
        · rw [h]; simp
        · exact Ne.symm h
      have hfar1 : u3.ownBlock = none ∨ u3.ownBlock ≠ some (wr.heap.size + 1) := own_far hown (by omega)
      have hfl : fs.length = j := by
        have := congrArg List.length HY.out
        simpa [Nat.min_eq_left (show j ≤ es.length by rw [HH.out.1]; omega)] using this
      go_region_held3 (fun w' => w'.cell? ⟨wr.heap.size, 0, none⟩ = some (.slice e.A e.n e.c) ∧ w'.cell? ⟨wr.heap.size, 1, none⟩ = some (.int .i64 e.k) ∧ w'.cell? ⟨wr.heap.size, 2, none⟩ = some (.int .i64 e.b) ∧ w'.cell? ⟨wr.heap.size, 3, none⟩ = some (.int .i64 e.i))
        (first
          | (go_split_ands
             refine ⟨?_, ?_, ?_, ?_⟩ <;> (rw [hgrow2.cell_far _ (by simp; omega) hfar]; assumption))
          | (go_split_ands
             refine ⟨?_, ?_, ?_, ?_⟩ <;> (rw [hgrow1.cell_far _ (by simp; omega) (by simp [Value.ownBlock])]; assumption))
          | go_keep)
        ((first
          | (refine step_append_x _ (by rfl) _ _ 22 (by rfl) w.heap.size 9 i9 _ 1 16 Try.underlying22 hi9 hz9 hs9 hb9 rfl (by omega) (.slice (some ⟨wr.heap.size + 1, 0, none⟩) 0 0) 0 [] (by rfl) (own_empty (by simp) (by omega)) B e.A e.n e.c (e.cs.map Value.string) (by rfl) ((hstr'.alloc (by omega) _).alloc (by simp; omega) _) (strs_one _) (.inl rfl) (by unfold maxLen; omega) (by omega) (by simp; omega) (wr.heap.size + 2) (by simp) ?_; intro g1 cap1 w1 hown1 hgrow1 hat1 hlt1; simp only [Nat.zero_add, List.nil_append] at hown1; have hz1 : wr.heap.size + 2 ≤ w1.heap.size := by have := hgrow1.size; simp at this; omega)
          | (refine step_append_x _ (by rfl) _ _ 36 (by rfl) w.heap.size 24 i74 _ 4 48 Try.underlying36 hi74 hz74 hs74 hb74 rfl (by omega) u3 _ _ (by rfl) ((((hown.alloc _).alloc _).drew.kept hgrow1 hfar1).alloc _) (w1.heap.size + 1) (some ⟨w1.heap.size, 0, none⟩) 1 1 [.int .i64 e.k, .int .i64 e.b, .int .i64 e.i, .slice (some ⟨g1, 0, none⟩) e.n cap1] (by rfl) (Reads.ofBlock (cs := #[.int .i64 e.k, .int .i64 e.b, .int .i64 e.i, .slice (some ⟨g1, 0, none⟩) e.n cap1]) (heap_alloc_new w1 _) rfl (by omega)) (by simp [Value.oneCell']) (.inr (by omega)) (by unfold maxLen; omega) (by omega) (by have := hgrow1.size; simp at this ⊢; omega) (w1.heap.size + 1) (by simp) ?_; intro g2 cap2 w2 hown2 hgrow2 hat2 hlt2)))
      go_wp2
      have R := elo_step (e := e) hbel HF.out hown1 hgrow1 hown2 hgrow2
      clear hown1 hgrow1 hown2 hgrow2 hown
      go_roundw
      case rel => exact ⟨j + 1, by omega, by go_num, R.1, _, (by rw [← hfl]; exact R.2), by
        rw [List.take_add_one, List.map_append, List.map_append, HY.out, HE.out]; rfl⟩
      case measure => simp [intOf]; omega
    · obtain rfl : j = n := by omega
      have HF := Lib.hid hfod
      have HY := Lib.hid hsay
      clear hfod hsay hne
      go_wp2
      go_ret
      exact ⟨_, _, rfl, hbel, HF.out, by rw [HY.out, List.take_of_length_le (by rw [HH.out.1]; omega)]⟩
end Go.Proofs.Ythinfliplpjdjaa
