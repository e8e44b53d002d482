/-
  impl.fodder: it makes fodder of its own out of elements: the same kinds, blank lines, indents and comments, in new memory.
-/
import Derived.Test.YthinfliplpjdjaaElem
import Derived.Deep.RegionHeld3
import Derived.Deep.DrawnRows
namespace Go.Proofs.Ythinfliplpjdjaa
open Go.RowKit

/-- An element as it lies in memory: its numbers, the slice value of its comment, and what that reads as. -/
structure CE where
  k : Int
  b : Int
  i : Int
  A : Option Addr
  n : Nat
  c : Nat
  cs : List ByteArray

/-- The cells of an impl.Element, and of an ast.FodderElement. -/
def cellsE (e : CE) : List Value := [.int .i64 e.k, .int .i64 e.b, .int .i64 e.i, .slice e.A e.n e.c]
def cellsF (e : CE) : List Value := [.slice e.A e.n e.c, .int .i64 e.k, .int .i64 e.b, .int .i64 e.i]
/-- What an element says, without where it lies. -/
def CE.say (e : CE) : Int × Int × Int × List ByteArray := (e.k, e.b, e.i, e.cs)

/-- A slice of elements that is read. -/
def Els (w : World) (B : Nat) (A : Option Addr) (n : Nat) (es : List CE) : Prop :=
  es.length = n ∧ Reads w B 4 A n (es.flatMap cellsE) ∧ ∀ e ∈ es, Strs w B e.A e.n e.cs

/-- A slice of fodder elements that the call owns, and owns the comments of. -/
def Fod (w : World) (base : Nat) (v : Value) (es : List CE) : Prop :=
  w.ownsRow base 74 4 v es.length (es.flatMap cellsF) ∧ ∀ e ∈ es, w.ownsRow base 9 1 (.slice e.A e.n e.c) e.n (e.cs.map Value.string)

theorem flatMap_get4 (f : CE → List Value) (hf : ∀ e, (f e).length = 4) : ∀ (es : List CE) (k j : Nat) (e : CE), es[k]? = some e → j < 4 → (es.flatMap f)[k * 4 + j]? = (f e)[j]?
  | [], k, j, e, h, _ => by simp at h
  | x :: r, 0, j, e, h, hj => by
    simp at h; subst h
    simp only [List.flatMap_cons, Nat.zero_mul, Nat.zero_add]
    rw [List.getElem?_append_left (by rw [hf]; exact hj)]
  | x :: r, k + 1, j, e, h, hj => by
    simp only [List.flatMap_cons]
    rw [List.getElem?_append_right (by rw [hf]; omega), hf]
    have := flatMap_get4 f hf r k j e (by simpa using h) hj
    rw [← this]
    congr 1
    omega

theorem Els.at_ {w : World} {B : Nat} {A : Option Addr} {n : Nat} {es : List CE} (h : Els w B A n es) {k : Nat} (hk : k < n) :
    ∃ b o e, A = some ⟨b, o, none⟩ ∧ b < B ∧ es[k]? = some e ∧ Strs w B e.A e.n e.cs ∧ w.cell? ⟨b, o + k * 4, none⟩ = some (.int .i64 e.k) ∧ w.cell? ⟨b, o + k * 4 + 1, none⟩ = some (.int .i64 e.b) ∧
      w.cell? ⟨b, o + k * 4 + 2, none⟩ = some (.int .i64 e.i) ∧ w.cell? ⟨b, o + k * 4 + 3, none⟩ = some (.slice e.A e.n e.c) := by
  obtain ⟨hl, hr, hs⟩ := h
  obtain ⟨ad, hA, hb, hc⟩ := hr.2 (by omega)
  have hkl : k < es.length := by omega
  have hke := List.getElem?_eq_getElem hkl
  have g := fun j (hj : j < 4) => flatMap_get4 cellsE (fun _ => rfl) es k j _ hke hj
  obtain ⟨b, o, spot⟩ := ad
  have c0 := hc (0 * 4 + 0) _ (flatMap_get4 cellsE (fun _ => rfl) es 0 0 _ (List.getElem?_eq_getElem (show 0 < es.length by omega)) (by omega))
  obtain rfl : spot = none := by simpa [Addr.add] using World.cell?_spot c0
  have e0 := hc (k * 4 + 0) _ (g 0 (by omega))
  have e1 := hc (k * 4 + 1) _ (g 1 (by omega))
  have e2 := hc (k * 4 + 2) _ (g 2 (by omega))
  have e3 := hc (k * 4 + 3) _ (g 3 (by omega))
  simp only [Addr.add_lit, ← Nat.add_assoc, Nat.add_zero] at e0 e1 e2 e3
  exact ⟨b, o, es[k], hA, hb, hke, hs _ (List.getElem_mem _), e0, e1, e2, e3⟩

theorem Reads.ofBlock {w : World} {B size n g : Nat} {cs : Array Value} {t : TypeId} {fr : Nat × Nat} (h : w.heap[g]? = some (.cells cs t fr)) (hs : cs.size = n * size) (hg : g < B) : Reads w B size (some ⟨g, 0, none⟩) n cs.toList :=
  ⟨by simpa using hs, fun _ => ⟨_, rfl, hg, World.news_of_block h⟩⟩
theorem Strs.below {w w' : World} {B : Nat} {A : Option Addr} {n : Nat} {ss : List ByteArray} (h : Strs w B A n ss) (hb : Below B w w') : Strs w' B A n ss := Reads.below h hb
theorem strs_one (ss : List ByteArray) : ∀ u ∈ ss.map Value.string, u.oneCell' = true := by
  intro u hu
  obtain ⟨_, _, rfl⟩ := List.mem_map.1 hu
  rfl
theorem info_string : (Try.prog.info? 9).map (fun i => (i.zero, i.size, i.bytes)) = some (some (.string ByteArray.empty), 1, 16) := by kernel_rfl
theorem info_fod : (Try.prog.info? 74).map (fun i => (i.zero, i.size, i.bytes)) = some (some (.agg #[.slice none 0 0, .int .i64 0, .int .i64 0, .int .i64 0]), 4, 48) := by kernel_rfl
theorem info_el : (Try.prog.info? 24).map (fun i => (i.zero, i.size, i.bytes)) = some (some (.agg #[.int .i64 0, .int .i64 0, .int .i64 0, .slice none 0 0]), 4, 48) := by kernel_rfl
theorem own_far {w : World} {base : Nat} {e : TypeId} {size : Nat} {v : Value} {n : Nat} {xs : List Value} (h : w.ownsRow base e size v n xs) {g : Nat} (hg : w.heap.size ≤ g) : v.ownBlock = none ∨ v.ownBlock ≠ some g := by
  cases hv : v.ownBlock with
  | none => exact .inl rfl
  | some k =>
    refine .inr fun hk => ?_
    have h1 := (h.lt k hv).2
    have h2 : k = g := by simpa using hk
    omega

theorem own_empty {w : World} {base e size S : Nat} (hS : w.heap.size = S) (hb : base ≤ S) : (w.alloc (.cells #[] e)).drew.ownsRow base e size (.slice (some ⟨S, 0, none⟩) 0 0) 0 [] := by
  subst hS
  exact (World.ownsRow_made w #[] 0 hb (by decide) (by simp)).drew
theorem own_lt {w : World} {g : Nat} {cs : Array Value} {t : TypeId} {fr : Nat × Nat} (h : w.heap[g]? = some (.cells cs t fr)) : g < w.heap.size := by
  rcases Nat.lt_or_ge g w.heap.size with hlt | hge
  · exact hlt
  · rw [Array.getElem?_eq_none hge] at h; cases h
/-- Two rows of different element types are two blocks. -/
theorem own_own_ne {w : World} {b1 b2 : Nat} {e1 e2 : TypeId} {s1 s2 : Nat} {v1 v2 : Value} {n1 n2 : Nat} {x1 x2 : List Value} (h1 : w.ownsRow b1 e1 s1 v1 n1 x1) (h2 : w.ownsRow b2 e2 s2 v2 n2 x2) (hne : e1 ≠ e2) :
    v1.ownBlock = none ∨ v1.ownBlock ≠ v2.ownBlock := by
  rcases h1.2 with ⟨rfl, _⟩ | ⟨g1, c1, cur1, rfl, _, hh1, _⟩
  · exact .inl rfl
  · right
    rcases h2.2 with ⟨rfl, _⟩ | ⟨g2, c2, cur2, rfl, _, hh2, _⟩
    · simp [Value.ownBlock]
    · intro h
      have : g1 = g2 := by simpa [Value.ownBlock] using h
      subst this
      rw [hh1] at hh2
      simp at hh2
      exact hne hh2.2
theorem fod_step {w wr w1 w2 : World} {O1 O2 O3 : Obj} {v : Value} {fs : List CE} {e : CE} {g1 cap1 g2 cap2 : Nat} (hbel : Below w.heap.size w wr) (hfod : Fod wr w.heap.size v fs)
    (hown1 : w1.ownsRow w.heap.size 9 1 (.slice (some ⟨g1, 0, none⟩) e.n cap1) e.n (e.cs.map Value.string))
    (hgrow1 : ((wr.alloc O1).alloc O2).drew.grownBy w1 (some (wr.heap.size + 1)))
    (hown2 : w2.ownsRow w.heap.size 74 4 (.slice (some ⟨g2, 0, none⟩) (fs.length + 1) cap2) (fs.length + 1) (fs.flatMap cellsF ++ [.slice (some ⟨g1, 0, none⟩) e.n cap1, .int .i64 e.k, .int .i64 e.b, .int .i64 e.i]))
    (hgrow2 : (w1.alloc O3).grownBy w2 v.ownBlock) :
    Below w.heap.size w w2 ∧ Fod w2 w.heap.size (.slice (some ⟨g2, 0, none⟩) (fs.length + 1) cap2) (fs ++ [⟨e.k, e.b, e.i, some ⟨g1, 0, none⟩, e.n, cap1, e.cs⟩]) := by
  have hs := hbel.size
  have hz1 := hgrow1.size
  have hz1' : wr.heap.size + 2 ≤ w1.heap.size := by simpa using hz1
  have hv : (w1.alloc O3).ownsRow w.heap.size 74 4 v fs.length (fs.flatMap cellsF) := ((((hfod.1.alloc _).alloc _).drew).kept hgrow1 (own_far hfod.1 (by omega))).alloc _
  refine ⟨?_, ?_, ?_⟩
  · refine Below.grown ((Below.grown (((hbel.alloc (by omega) O1).alloc (by simp; omega) O2).drew) hgrow1 (by simp; omega) ?_).alloc (by omega) O3) hgrow2 (by simp; omega) ?_
    · rintro k hk
      have : wr.heap.size + 1 = k := by simpa using hk
      omega
    · exact fun k hk => (hfod.1.lt k hk).1
  · simpa [cellsF] using hown2
  · intro x hx
    rw [List.mem_append] at hx
    rcases hx with hx | hx
    · have hx1 := hfod.2 x hx
      have hx2 := ((((hx1.alloc O1).alloc O2).drew).kept hgrow1 (own_far hx1 (by omega))).alloc O3
      exact hx2.kept hgrow2 (own_own_ne hx2 hv (by decide))
    · simp only [List.mem_singleton] at hx
      subst hx
      have hx2 := hown1.alloc O3
      exact hx2.kept hgrow2 (own_own_ne hx2 hv (by decide))

set_option maxRecDepth 100000 in
set_option maxHeartbeats 1600000 in
theorem fodder_any (A : Option Addr) (n c : Nat) (es : List CE) (B : Nat) (w : World) (h : Els w B A n es) (hB : B ≤ w.heap.size) (hn : n ≤ 2147483647)
    (hkk : ∀ e ∈ es, 0 ≤ e.k ∧ e.k ≤ 2) (hne : ∀ e ∈ es, e.n ≤ 2147483647) :
    Calls Try.prog 34 #[.slice A n c] w fun e w' => ∃ v fs, e = .returned (.tuple #[v, .bool true]) ∧ Below w.heap.size w w' ∧ Fod w' w.heap.size v fs ∧ fs.map CE.say = es.map CE.say := by
  have HH := Lib.hid h
  clear h
  obtain ⟨i9, hi9, hz9, hs9, hb9⟩ := info_parts info_string
  obtain ⟨i74, hi74, hz74, hs74, hb74⟩ := info_parts info_fod
  go_enter Try.func34, Try.ntmps34
  go_wp2
  go_loopw [4, 9] (fun v t wr => ∃ j : Nat, j ≤ n ∧ t = .int .i64 j ∧ Below w.heap.size w wr ∧ ∃ fs, Fod wr w.heap.size v fs ∧ fs.map CE.say = (es.take j).map CE.say) (fun _ t _ => n - (intOf t).toNat)
  case atStart => exact ⟨0, Nat.zero_le _, rfl, Below.refl _ _, [], ⟨World.ownsRow_nil _ _ _ _, fun _ h => by cases h⟩, rfl⟩
  case round =>
    obtain ⟨j, hj, rfl, hbel, fs, hfod, hsay⟩ := hrel
    by_cases hlt : j < n
    · obtain ⟨b, o, e, rfl, hb, hej, hstr, c0, c1, c2, c3⟩ := HH.out.at_ hlt
      have d0 := (hbel.cell (p := ⟨b, o + j * 4, none⟩) (by show b < _; omega)).trans c0
      have d1 := (hbel.cell (p := ⟨b, o + j * 4 + 1, none⟩) (by show b < _; omega)).trans c1
      have d2 := (hbel.cell (p := ⟨b, o + j * 4 + 2, none⟩) (by show b < _; omega)).trans c2
      have d3 := (hbel.cell (p := ⟨b, o + j * 4 + 3, none⟩) (by show b < _; omega)).trans c3
      have hk0 : 0 ≤ e.k := (hkk e (List.mem_of_getElem? hej)).1
      have hk2 : e.k ≤ 2 := (hkk e (List.mem_of_getElem? hej)).2
      clear c0 c1 c2 c3
      have HE := Lib.hid hej
      have HF := Lib.hid hfod
      have HY := Lib.hid hsay
      have hen : e.n ≤ 2147483647 := hne e (List.mem_of_getElem? hej)
      clear hej hfod hsay hne hkk
      have hbs := hbel.size
      have hbel' : Below B w wr := hbel.mono hB
      go_wp2
      have hstr' := hstr.below hbel'
      have hown := HF.out.1
      have hfar : some wr.heap.size ≠ u4.ownBlock := by
        rcases own_far hown (Nat.le_refl _) with h | h
        · rw [h]; simp
        · exact Ne.symm h
      have hfar1 : u4.ownBlock = none ∨ u4.ownBlock ≠ some (wr.heap.size + 1) := own_far hown (by omega)
      have hfl : fs.length = j := by
        have := congrArg List.length HY.out
        simpa [Nat.min_eq_left (show j ≤ es.length by rw [HH.out.1]; omega)] using this
      go_region_held3 (fun w' => w'.cell? ⟨wr.heap.size, 0, none⟩ = some (.int .i64 e.k) ∧ w'.cell? ⟨wr.heap.size, 1, none⟩ = some (.int .i64 e.b) ∧ w'.cell? ⟨wr.heap.size, 2, none⟩ = some (.int .i64 e.i) ∧ w'.cell? ⟨wr.heap.size, 3, none⟩ = some (.slice e.A e.n e.c))
        (first
          | (go_split_ands
             refine ⟨?_, ?_, ?_, ?_⟩ <;> (rw [hgrow2.cell_far _ (by simp; omega) hfar]; assumption))
          | (go_split_ands
             refine ⟨?_, ?_, ?_, ?_⟩ <;> (rw [hgrow1.cell_far _ (by simp; omega) (by simp [Value.ownBlock])]; assumption))
          | go_keep)
        ((first
          | (refine step_append_x _ (by rfl) _ _ 22 (by rfl) w.heap.size 9 i9 _ 1 16 Try.underlying22 hi9 hz9 hs9 hb9 rfl (by omega) (.slice (some ⟨wr.heap.size + 1, 0, none⟩) 0 0) 0 [] (by rfl) (own_empty (by simp) (by omega)) B e.A e.n e.c (e.cs.map Value.string) (by rfl) ((hstr'.alloc (by omega) _).alloc (by simp; omega) _) (strs_one _) (.inl rfl) (by unfold maxLen; omega) (by omega) (by simp; omega) (wr.heap.size + 2) (by simp) ?_; intro g1 cap1 w1 hown1 hgrow1 hat1 hlt1; simp only [Nat.zero_add, List.nil_append] at hown1; have hz1 : wr.heap.size + 2 ≤ w1.heap.size := by have := hgrow1.size; simp at this; omega)
          | (refine step_append_x _ (by rfl) _ _ 58 (by rfl) w.heap.size 74 i74 _ 4 48 Try.underlying58 hi74 hz74 hs74 hb74 rfl (by omega) u4 _ _ (by rfl) ((((hown.alloc _).alloc _).drew.kept hgrow1 hfar1).alloc _) (w1.heap.size + 1) (some ⟨w1.heap.size, 0, none⟩) 1 1 [.slice (some ⟨g1, 0, none⟩) e.n cap1, .int .i64 e.k, .int .i64 e.b, .int .i64 e.i] (by rfl) (Reads.ofBlock (cs := #[.slice (some ⟨g1, 0, none⟩) e.n cap1, .int .i64 e.k, .int .i64 e.b, .int .i64 e.i]) (heap_alloc_new w1 _) rfl (by omega)) (by simp [Value.oneCell']) (.inr (by omega)) (by unfold maxLen; omega) (by omega) (by have := hgrow1.size; simp at this ⊢; omega) (w1.heap.size + 1) (by simp) ?_; intro g2 cap2 w2 hown2 hgrow2 hat2 hlt2)))
      go_wp2
      have R := fod_step (e := e) hbel HF.out hown1 hgrow1 hown2 hgrow2
      clear hown1 hgrow1 hown2 hgrow2 hown
      go_roundw
      case rel => exact ⟨j + 1, by omega, by go_num, R.1, _, (by rw [← hfl]; exact R.2), by
        rw [List.take_add_one, List.map_append, List.map_append, HY.out, HE.out]; rfl⟩
      case measure => simp [intOf]; omega
    · obtain rfl : j = n := by omega
      have HF := Lib.hid hfod
      have HY := Lib.hid hsay
      clear hfod hsay hkk hne
      go_wp2
      go_ret2
      exact ⟨_, _, rfl, hbel, HF.out, by rw [HY.out, List.take_of_length_le (by rw [HH.out.1]; omega)]⟩
end Go.Proofs.Ythinfliplpjdjaa
