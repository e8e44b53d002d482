/-
  Arguments opened: a slice of nodes that came in.
-/
import Derived.Test.YtdhhdnopilfifaaPrND
import Derived.ProofKit
import Derived.OpenShut
import Derived.ShutString
import Derived.ChangeOld
import Derived.SliceStrings
import Derived.Lib.SmallJoins
import Derived.Carry
import Derived.Deep.Slices
import Derived.Deep.Fields
import Derived.ChangeSame
namespace Go.Proofs.Ytdhhdnopilfifaa
open Go.ChangeShapes Go.WideShapes Go.ChangeAt Go.RowKit Go.Deep

theorem own : ownKnob Try.prog.godebug = none := by kernel_rfl
theorem laidOut : laidOutB Try.prog = true := by kernel_rfl
section
variable {H : Type} {enc : TypeId × Value → H} {P : Program} {w : World} {base : Nat} {spare : Nat → Bool} {held : Bool}
theorem open_slice_fields {t e : TypeId} {fs : Array Field} {fuel : Nat} {cs : List Value} {x : DataW H × List MemPlace} (ht : P.underlying t = some (.slice e)) (he : P.underlying e = some (.struct fs))
    (hone : oneCellFields P fs = true) (hC : P.cellsOf e = fs.size) (h : DataW.trod enc P w base spare held fuel t cs = some x) :
    (cs = [.slice none 0 0] ∧ x = (.nil, [])) ∨
    ∃ (a : Addr) (len cap m : Nat) (D : Nat → DataW H) (Pl : Nat → List MemPlace), cs = [.slice (some a) len cap] ∧ base ≤ a.block ∧ len ≤ cap ∧ cap ≤ maxLen ∧ m = (if spare a.block then cap else len) ∧
      x = (.slice ((List.range len).map D) ((List.range (m - len)).map fun j => D (len + j)), MemPlace.row a (m * fs.size) ++ (List.range m).flatMap Pl) ∧
      ∀ i, i < m → ∃ (ys : List (DataW H × List MemPlace)) (n : Nat), D i = .agg (ys.map (·.1)) ∧ Pl i = ys.flatMap (·.2) ∧ ys.length = fs.size ∧
        ∀ (j : Nat) (f : Field), fs[j]? = some f → ∃ (v : Value) (y : DataW H × List MemPlace), w.cell? (a.add (i * fs.size + j)) = some v ∧ ys[j]? = some y ∧ DataW.trod enc P w base spare held n f.type [v] = some y := by
  rcases open_slice ht h with h0 | ⟨a, len, cap, m, n, D, Pl, hcs, hb, hl, hm, hmm, hx, hi⟩
  · exact .inl h0
  · refine .inr ⟨a, len, cap, m, D, Pl, hcs, hb, hl, hm, hmm, by rw [hC] at hx; exact hx, fun i him => ?_⟩
    obtain ⟨cs', hc, ht'⟩ := hi i him
    rw [hC] at hc
    obtain ⟨ys, n', hn', hy, hlen, hyl, hf⟩ := DataW.trod_struct he ht'
    obtain ⟨_, hcl, hat⟩ := World.cells?_some hc
    simp only [Prod.mk.injEq] at hy
    refine ⟨ys, n', hy.1, hy.2, hyl, fun j f hj => ?_⟩
    obtain ⟨ho, hk⟩ := hone_of hone j f hj
    have hjl : j < fs.size := (Array.getElem?_eq_some_iff.1 hj).1
    have hcell := hat j hjl
    have hv : cs'[j]? = some (cs'[j]'(by omega)) := List.getElem?_eq_getElem (by omega)
    have h1 := hf j f hj
    rw [ho, hk] at h1
    have hone' : (cs'.drop j).take 1 = [cs'[j]'(by omega)] := by
      rw [List.drop_eq_getElem_cons (by omega)]
      rfl
    rw [hone'] at h1
    have hys : ys[j]? = some (ys[j]'(by omega)) := List.getElem?_eq_getElem (by omega)
    refine ⟨_, _, ?_, hys, h1.trans hys⟩
    rw [← Go.Deep.add_add, hcell, hv]
end

theorem list_of {α : Type} {Q : Nat → α → Prop} : ∀ (n : Nat), (∀ i, i < n → ∃ x, Q i x) → ∃ xs : List α, xs.length = n ∧ ∀ i x, xs[i]? = some x → Q i x
  | 0, _ => ⟨[], rfl, fun i x h => by simp at h⟩
  | n + 1, h => by
    obtain ⟨xs, hl, hq⟩ := list_of n (fun i hi => h i (by omega))
    obtain ⟨y, hy⟩ := h n (by omega)
    refine ⟨xs ++ [y], by simp [hl], fun i x hx => ?_⟩
    rcases Nat.lt_or_ge i n with hi | hi
    · rw [List.getElem?_append_left (by omega)] at hx
      exact hq i x hx
    · have := (List.getElem?_eq_some_iff.1 hx).1
      simp only [List.length_append, List.length_cons, List.length_nil] at this
      obtain rfl : i = n := by omega
      rw [List.getElem?_append_right (by omega), hl, Nat.sub_self] at hx
      simp only [List.getElem?_cons_zero, Option.some.injEq] at hx
      exact hx ▸ hy

theorem int_range {z : Int} (h : (Lit.int .i64 z).wf = true) : -9223372036854775808 ≤ z ∧ z ≤ 9223372036854775807 := by
  have h1 : IntKind.i64.min = -9223372036854775808 := by decide
  have h2 : IntKind.i64.max = 9223372036854775807 := by decide
  simp [Lit.wf] at h
  omega
/-- What one node's cells hold. -/
def AtN (w : World) (a : Addr) (i : Nat) (e : ND) : Prop :=
  (∀ r u, (cellsN e)[r]? = some u → w.cell? (a.add (i * 5 + r)) = some u) ∧ e.text.size ≤ maxLen ∧ -9223372036854775808 ≤ e.size ∧ e.size ≤ 9223372036854775807
section
variable {H : Type} {enc : TypeId × Value → H} {w : World} {spare : Nat → Bool} {held : Bool} {fuel : Nat} {cs : List Value} {x : DataW H × List MemPlace}
theorem nodes_of_trod {t : TypeId} (ht : Try.prog.underlying t = some (.slice 26)) (h : DataW.trod enc Try.prog w 0 spare held fuel t cs = some x) :
    ∃ A n c es, cs = [.slice A n c] ∧ n ≤ c ∧ c ≤ maxLen ∧ Nodes w w.heap.size A n es ∧ SoundN es := by
  rcases open_slice_fields ht Try.underlying26 (by kernel_rfl) (by kernel_rfl) h with ⟨rfl, _⟩ | ⟨a, len, cap, m, D, Pl, rfl, _, hl, hm, hmm, _, hi⟩
  · exact ⟨none, 0, 0, [], rfl, Nat.le_refl _, by decide, ⟨rfl, Reads.none_⟩, fun e he => by cases he⟩
  · have hml : len ≤ m := by rw [hmm]; split <;> omega
    have hel : ∀ i, i < len → ∃ e : ND, AtN w a i e := by
      intro i hil
      obtain ⟨ys, n, _, _, _, hf⟩ := hi i (by omega)
      obtain ⟨v0, y0, hc0, _, ht0⟩ := hf 0 _ rfl
      obtain ⟨v1, y1, hc1, _, ht1⟩ := hf 1 _ rfl
      obtain ⟨v2, y2, hc2, _, ht2⟩ := hf 2 _ rfl
      obtain ⟨v3, y3, hc3, _, ht3⟩ := hf 3 _ rfl
      obtain ⟨v4, y4, hc4, _, ht4⟩ := hf 4 _ rfl
      obtain ⟨k, e0, _, _⟩ := DataW.trod_int Try.underlying3 ht0
      obtain ⟨b, e1, _, _⟩ := DataW.trod_int Try.underlying3 ht1
      obtain ⟨s, e2, _, hs⟩ := DataW.trod_string Try.underlying9 ht2
      obtain ⟨q, e3, _, _⟩ := DataW.trod_int Try.underlying3 ht3
      obtain ⟨z, e4, _, hz⟩ := DataW.trod_int Try.underlying3 ht4
      simp only [List.cons.injEq, and_true] at e0 e1 e2 e3 e4
      subst e0 e1 e2 e3 e4
      have hr := int_range hz
      refine ⟨⟨k, b, s, q, z⟩, fun r u hu => ?_, hs, hr.1, hr.2⟩
      match r, hu with
      | 0, hu => simp only [cellsN, List.getElem?_cons_zero, Option.some.injEq] at hu; subst hu; exact hc0
      | 1, hu => simp only [cellsN, List.getElem?_cons_zero, List.getElem?_cons_succ, Option.some.injEq] at hu; subst hu; exact hc1
      | 2, hu => simp only [cellsN, List.getElem?_cons_zero, List.getElem?_cons_succ, Option.some.injEq] at hu; subst hu; exact hc2
      | 3, hu => simp only [cellsN, List.getElem?_cons_zero, List.getElem?_cons_succ, Option.some.injEq] at hu; subst hu; exact hc3
      | 4, hu => simp only [cellsN, List.getElem?_cons_zero, List.getElem?_cons_succ, Option.some.injEq] at hu; subst hu; exact hc4
      | r + 5, hu => simp [cellsN] at hu
    obtain ⟨es, hes, hq⟩ := list_of len hel
    refine ⟨some a, len, cap, es, rfl, hl, hm, ⟨hes, ⟨?_, fun hp => ⟨a, rfl, ?_, fun j u hu => ?_⟩⟩⟩, fun e he => ?_⟩
    · rw [flatN_len, hes]
    · have he := List.getElem?_eq_getElem (l := es) (i := 0) (by omega)
      have h0 := (hq 0 _ he).1 0 _ rfl
      have := World.block_lt_of_cell? w _ h0
      rwa [block_of_add] at this
    · have hjl := (List.getElem?_eq_some_iff.1 hu).1
      rw [flatN_len, hes] at hjl
      have hk : j / 5 < es.length := by omega
      have he := List.getElem?_eq_getElem hk
      have hj : j = j / 5 * 5 + j % 5 := by omega
      rw [hj, flatN_get es (j / 5) (j % 5) _ he (by omega)] at hu
      have := (hq _ _ he).1 _ _ hu
      rw [← hj] at this
      exact this
    · obtain ⟨j, hj, rfl⟩ := List.getElem_of_mem he
      exact (hq _ _ (List.getElem?_eq_getElem hj)).2
set_option maxRecDepth 100000 in
theorem nodes_of_Trod {t : TypeId} {r : Reach} {b0 : Nat} {v : Value} {d : DataW H} {pl : List MemPlace} (ht : Try.prog.underlying t = some (.slice 26)) (hv : Value.okWide Try.prog w r b0 t v) (h : DataW.Trod enc Try.prog w 0 spare held t v d pl) :
    ∃ A n c es, v = .slice A n c ∧ n ≤ c ∧ c ≤ maxLen ∧ Nodes w w.heap.size A n es ∧ SoundN es := by
  obtain ⟨a0, l0, c0, rfl⟩ := okWide_slice ht hv
  obtain ⟨fuel, hf⟩ := h
  obtain ⟨A, n, c, es, he, h1, h2, h3, h4⟩ := nodes_of_trod ht hf
  have he' : [Value.slice a0 l0 c0] = [Value.slice A n c] := he
  simp only [List.cons.injEq, and_true] at he'
  exact ⟨A, n, c, es, he', h1, h2, h3, h4⟩
end
end Go.Proofs.Ytdhhdnopilfifaa
