/-
  impl.chain: steps as package jsonnet takes them.
-/
import Derived.Test.YtkbjcpeogecbgaaDoorFs
import Derived.Deep.RegionLaw
namespace Go.Proofs.YtkbjcpeogecbgaaDoor
open Go.RowKit

def hideOf (h : Int) : Int := if h = 0 then 1 else if h = 1 then 0 else 2
def cellsJ (e : FE) : List Value := [.string e.rm, .slice e.A e.n e.c, .slice e.A2 e.n2 e.c2, .bool e.is]
theorem flatJ_get : ∀ (es : List FE) (k j : Nat) (e : FE), es[k]? = some e → j < 4 → (es.flatMap cellsJ)[k * 4 + j]? = (cellsJ e)[j]?
  | [], k, j, e, h, _ => by simp at h
  | x :: es, 0, j, e, h, hj => by
    simp at h
    subst h
    rw [List.flatMap_cons, List.getElem?_append_left (by simp [cellsJ]; omega)]
    simp
  | x :: es, k + 1, j, e, h, hj => by
    have hl : (cellsJ x).length = 4 := rfl
    rw [List.flatMap_cons, List.getElem?_append_right (by rw [hl]; omega), hl]
    have e1 : (k + 1) * 4 + j - 4 = k * 4 + j := by omega
    rw [e1]
    exact flatJ_get es k j e (by simpa using h) hj
/-- Steps of package jsonnet, that are read. -/
def JSteps (w : World) (B : Nat) (A : Option Addr) (n : Nat) (es : List FE) : Prop :=
  es.length = n ∧ Reads w B 4 A n (es.flatMap cellsJ) ∧ ∀ e ∈ es, Strs w B e.A e.n e.ns ∧ Ints w B e.A2 e.n2 e.hs
theorem JSteps.at_ {w : World} {B : Nat} {A : Option Addr} {n : Nat} {es : List FE} (h : JSteps w B A n es) {k : Nat} (hk : k < n) :
    ∃ b o e, A = some ⟨b, o, none⟩ ∧ b < B ∧ es[k]? = some e ∧ Strs w B e.A e.n e.ns ∧ Ints w B e.A2 e.n2 e.hs ∧ w.cell? ⟨b, o + k * 4, none⟩ = some (.string e.rm) ∧
      w.cell? ⟨b, o + k * 4 + 1, none⟩ = some (.slice e.A e.n e.c) ∧ w.cell? ⟨b, o + k * 4 + 2, none⟩ = some (.slice e.A2 e.n2 e.c2) ∧ w.cell? ⟨b, o + k * 4 + 3, none⟩ = some (.bool e.is) := by
  obtain ⟨hl, hr, hs⟩ := h
  obtain ⟨ad, hA, hb, hc⟩ := hr.2 (by omega)
  have hkl : k < es.length := by omega
  have hke := List.getElem?_eq_getElem hkl
  have g := fun j (hj : j < 4) => flatJ_get es k j _ hke hj
  obtain ⟨b, o, spot⟩ := ad
  have c0 := hc (0 * 4 + 0) _ (flatJ_get es 0 0 _ (List.getElem?_eq_getElem (show 0 < es.length by omega)) (by omega))
  obtain rfl : spot = none := by simpa [Addr.add] using World.cell?_spot c0
  have e0 := hc (k * 4 + 0) _ (g 0 (by omega))
  have e1 := hc (k * 4 + 1) _ (g 1 (by omega))
  have e2 := hc (k * 4 + 2) _ (g 2 (by omega))
  have e3 := hc (k * 4 + 3) _ (g 3 (by omega))
  simp only [Addr.add_lit, ← Nat.add_assoc, Nat.add_zero] at e0 e1 e2 e3
  have hm := hs _ (List.getElem_mem hkl)
  exact ⟨b, o, es[k], hA, hb, hke, hm.1, hm.2, e0, e1, e2, e3⟩
theorem JSteps.below {w w' : World} {B C : Nat} {A : Option Addr} {n : Nat} {es : List FE} (h : JSteps w B A n es) (hb : Below C w w') (hC : B ≤ C) : JSteps w' B A n es :=
  ⟨h.1, h.2.1.below (hb.mono hC), fun e he => ⟨Reads.below (h.2.2 e he).1 (hb.mono hC), Reads.below (h.2.2 e he).2 (hb.mono hC)⟩⟩
theorem JSteps.more {w : World} {B B' : Nat} {A : Option Addr} {n : Nat} {es : List FE} (h : JSteps w B A n es) (hb : B ≤ B') : JSteps w B' A n es :=
  ⟨h.1, h.2.1.more hb, fun e he => ⟨Reads.more (h.2.2 e he).1 hb, Reads.more (h.2.2 e he).2 hb⟩⟩

/-- All but blocks of steps stands as it was. -/
def KeptC (w w' : World) : Prop := w.heap.size ≤ w'.heap.size ∧
  ∀ (k : Nat) (o : Obj), w.heap[k]? = some o → (∀ cs fr, o ≠ Obj.cells cs 57 fr) → w'.heap[k]? = some o
theorem KeptC.refl (w : World) : KeptC w w := ⟨Nat.le_refl _, fun _ _ h _ => h⟩
theorem KeptC.trans {a b c : World} (h : KeptC a b) (k : KeptC b c) : KeptC a c := ⟨Nat.le_trans h.1 k.1, fun i o h1 h2 => k.2 i o (h.2 i o h1 h2) h2⟩
theorem heap_lt {w : World} {k : Nat} {o : Obj} (h : w.heap[k]? = some o) : k < w.heap.size := by
  rcases Nat.lt_or_ge k w.heap.size with hlt | hge
  · exact hlt
  · rw [Array.getElem?_eq_none hge] at h; cases h
theorem KeptC.of_below {w w' : World} (h : Below w.heap.size w w') : KeptC w w' := ⟨h.size, fun _ _ h1 _ => (h.block _ (heap_lt h1)).trans h1⟩
theorem KeptC.grown {b c : World} {base size n : Nat} {v : Value} {xs : List Value} (hg : b.grownBy c v.ownBlock) (ho : b.ownsRow base 57 size v n xs) : KeptC b c := by
  refine ⟨hg.size, fun i o h1 h3 => ?_⟩
  refine (hg.block i (heap_lt h1) fun e => ?_).trans h1
  rcases ho.2 with ⟨rfl, _⟩ | ⟨g, cap, cur, rfl, _, hh, _⟩
  · simp [Value.ownBlock] at e
  · have : g = i := by simpa [Value.ownBlock] using e.symm
    subst this
    rw [hh] at h1
    injection h1 with h1
    exact h3 _ _ h1.symm
theorem own_keptC {w w' : World} {base e size n : Nat} {v : Value} {xs : List Value} (h : w.ownsRow base e size v n xs) (hk : KeptC w w') (h1 : e ≠ 57) : w'.ownsRow base e size v n xs := by
  refine ⟨h.1, ?_⟩
  rcases h.2 with h3 | ⟨g, cap, cur, h4, h5, h6, h7⟩
  · exact .inl h3
  · refine .inr ⟨g, cap, cur, h4, h5, hk.2 g _ h6 ?_, h7⟩
    intro cs' fr e
    injection e with _ e
    exact h1 e
/-- What the steps out of steps say. -/
def toJ (e : FE) (j : FE) : Prop := j.is = e.is ∧ j.rm = e.rm ∧ j.A = e.A ∧ j.n = e.n ∧ j.c = e.c ∧ j.ns = e.ns ∧ j.n2 = e.n2 ∧ j.hs = e.hs.map hideOf
def Rows2 (w : World) (base : Nat) (js : List FE) : Prop := ∀ j ∈ js, w.ownsRow base 3 1 (.slice j.A2 j.n2 j.c2) j.n2 (j.hs.map (Value.int .i64))

theorem hides_any (h : Int) (w : World) (hh : h = 0 ∨ h = 1 ∨ h = 2) :
    Calls Tryd.prog 24 #[.int .i64 h] w fun e w' => e = .returned (.tuple #[.int .i64 (hideOf h), .bool true]) ∧ w = w' := by
  rcases hh with rfl | rfl | rfl
  all_goals
    go_enter Tryd.func24, Tryd.ntmps24
    go_wp2
    go_ret2
    exact ⟨rfl, rfl⟩

theorem grownBy_set (w : World) (p : Addr) (v : Value) : w.grownBy (w.setCell p v) (some p.block) :=
  ⟨rfl, rfl, rfl, by simp [World.setCell], fun i _ hi => Below.heap_setCell w p v i (fun e => hi (by rw [e]))⟩
theorem KeptC.new {a b c : World} {row : Option Nat} (h : KeptC a b) (hg : b.grownBy c row) (hr : ∀ g, row = some g → a.heap.size ≤ g) : KeptC a c :=
  ⟨Nat.le_trans h.1 hg.size, fun k o h1 h2 => by
    have hk := heap_lt h1
    refine (hg.block k (by have := h.1; omega) fun e => ?_).trans (h.2 k o h1 h2)
    have := hr k e.symm
    omega⟩
theorem KeptC.alloc {a b : World} (h : KeptC a b) (o : Obj) : KeptC a (b.alloc o) := h.trans (KeptC.of_below ((Below.refl _ _).alloc (Nat.le_refl _) _))
theorem own_new {b c : World} {base e size n m : Nat} {v : Value} {xs : List Value} {row : Option Nat} (h : b.ownsRow base e size v n xs) (hlt : ∀ g, v.ownBlock = some g → g < m) (hg : b.grownBy c row) (hr : ∀ g, row = some g → m ≤ g) : c.ownsRow base e size v n xs := by
  refine h.kept hg ?_
  cases hv : v.ownBlock with
  | none => exact .inl rfl
  | some g =>
    refine .inr fun e => ?_
    have h1 := hlt g hv
    have h2 := hr g e.symm
    omega
theorem own_form {w : World} {base e n : Nat} {v : Value} {xs : List Value} (h : w.ownsRow base e 1 v n xs) : ∃ A c, v = .slice A n c := by
  rcases h.2 with ⟨rfl, h0⟩ | ⟨g, cap, cur, rfl, _⟩
  · exact ⟨none, 0, by rw [h0]⟩
  · exact ⟨_, cap, rfl⟩
theorem heap_new1 (w : World) (a o : Obj) : ((w.alloc a).alloc o).heap[w.heap.size + 1]? = some o := by
  have := heap_alloc_new (w.alloc a) o
  simpa using this
theorem Reads.ofBlock {w : World} {B size n g : Nat} {cs : Array Value} {t : TypeId} {fr : Nat × Nat} (h : w.heap[g]? = some (.cells cs t fr)) (hs : cs.size = n * size) (hg : g < B) : Reads w B size (some ⟨g, 0, none⟩) n cs.toList :=
  ⟨by simpa using hs, fun _ => ⟨_, rfl, hg, World.news_of_block h⟩⟩
theorem info_int : (Tryd.prog.info? 3).map (fun i => (i.zero, i.size, i.bytes)) = some (some (.int .i64 0), 1, 8) := by kernel_rfl
theorem info_cs : (Tryd.prog.info? 57).map (fun i => (i.zero, i.size, i.bytes)) = some (some (.agg #[.string ByteArray.empty, .slice none 0 0, .slice none 0 0, .bool false]), 4, 72) := by kernel_rfl
def ChPost (es : List FE) (w : World) (e : Ending) (w' : World) : Prop :=
  (∃ (A : Option Addr) (c : Nat) (js : List FE), e = .returned (.tuple #[.slice A es.length c, .bool true]) ∧ JSteps w' w'.heap.size A es.length js ∧ ∀ (i : Nat) (e j : FE), es[i]? = some e → js[i]? = some j → toJ e j) ∧ Below w.heap.size w w'
/-- The steps made so far, and how they lie. -/
def CI (w wr : World) (es : List FE) (k : Nat) (u : Value) : Prop :=
  ∃ js : List FE, js.length = k ∧ wr.ownsRow w.heap.size 57 4 u k (js.flatMap cellsJ) ∧ Rows2 wr w.heap.size js ∧ (∀ (i : Nat) (e j : FE), es[i]? = some e → js[i]? = some j → toJ e j) ∧ Below w.heap.size w wr
/-- Inside a round: the new step's box, and its ways of being seen. -/
def HI (w wr wj : World) (bX m : Nat) (v0 v1 v3 : Value) (hs : List Int) (j : Nat) (u : Value) : Prop :=
  Blk wj bX 57 #[v0, v1, u, v3] ∧ wj.ownsRow m 3 1 u j ((hs.take j).map fun h => Value.int .i64 (hideOf h)) ∧ KeptC wr wj ∧ Below m wr wj ∧ m ≤ wj.heap.size ∧ w.heap.size ≤ m ∧ m ≤ bX
theorem hi_start (w wr : World) (v0 v1 v3 : Value) (hs : List Int) (o : Obj) (hw : w.heap.size ≤ wr.heap.size) : HI w wr ((wr.alloc o).alloc (.cells #[v0, v1, .slice none 0 0, v3] 57)) (wr.heap.size + 1) wr.heap.size v0 v1 v3 hs 0 (.slice none 0 0) := by
  refine ⟨?_, ?_, (KeptC.refl _).alloc _ |>.alloc _, ((Below.refl _ _).alloc (Nat.le_refl _) _).alloc (by simp) _, by simp; omega, hw, by omega⟩
  · have := Blk.new (wr.alloc o) 57 #[v0, v1, .slice none 0 0, v3]
    simpa using this
  · exact World.ownsRow_nil _ _ _ _
theorem hi_step {w wr wj w2 : World} {bX m j cap g : Nat} {v0 v1 v3 u : Value} {hs : List Int} {hd : Int} (h : HI w wr wj bX m v0 v1 v3 hs j u) (hm : m = wr.heap.size) (hj : hs[j]? = some hd) {o : Obj}
    (hown : w2.ownsRow m 3 1 (.slice (some ⟨g, 0, none⟩) (j + 1) cap) (j + 1) (((hs.take j).map fun h => Value.int .i64 (hideOf h)) ++ [.int .i64 (hideOf hd)])) (hg : (wj.alloc o).grownBy w2 u.ownBlock) :
    HI w wr (w2.setCell ⟨bX, 2, none⟩ (.slice (some ⟨g, 0, none⟩) (j + 1) cap)) bX m v0 v1 v3 hs (j + 1) (.slice (some ⟨g, 0, none⟩) (j + 1) cap) := by
  obtain ⟨h1, h2, h3, h4, h5, h6, h7⟩ := h
  have hB2 : Blk w2 bX 57 #[v0, v1, u, v3] := (h1.alloc o).grown hg (fun e => own_blk_ne h2 h1 (by decide) e.symm)
  have hk2 : KeptC wr w2 := (h3.alloc o).new hg (fun g hgg => by have := (h2.lt g hgg).1; omega)
  have hs2 := hg.size
  simp at hs2
  have ht : hs.take (j + 1) = hs.take j ++ [hd] := by
    obtain ⟨h8, h9⟩ := List.getElem?_eq_some_iff.1 hj
    rw [List.take_succ_eq_append_getElem h8, h9]
  refine ⟨by simpa using hB2.set_ 2 _, ?_, hk2.new (grownBy_set _ _ _) (fun g hgg => by cases hgg; show wr.heap.size ≤ bX; omega), ?_, by simp [World.setCell]; omega, h6, h7⟩
  · rw [ht, List.map_append]
    exact hown.kept (grownBy_set _ _ _) (.inr (own_blk_ne hown hB2 (by decide)))
  · exact ((h4.alloc h5 o).grown hg (by simp; omega) (fun g hgg => (h2.lt g hgg).1)).setCell (p := ⟨bX, 2, none⟩) h7 _

theorem own_below {w w' : World} {base e size n : Nat} {v : Value} {xs : List Value} (h : w.ownsRow base e size v n xs) (hb : Below w.heap.size w w') : w'.ownsRow base e size v n xs := by
  refine ⟨h.1, ?_⟩
  rcases h.2 with h4 | ⟨g, cap, cur, h5, h6, h7, h8⟩
  · exact .inl h4
  · exact .inr ⟨g, cap, cur, h5, h6, Blk.below h7 hb (Blk.lt h7), h8⟩
theorem own_base {w : World} {base base' e size n : Nat} {v : Value} {xs : List Value} (h : w.ownsRow base e size v n xs) (hb : base' ≤ base) : w.ownsRow base' e size v n xs := by
  refine ⟨h.1, ?_⟩
  rcases h.2 with h4 | ⟨g, cap, cur, h5, h6, h7, h8⟩
  · exact .inl h4
  · exact .inr ⟨g, cap, cur, h5, Nat.le_trans hb h6, h7, h8⟩
theorem ci_hold {w w1 wr : World} {es : List FE} {k : Nat} {u : Value} (h : CI w w1 es k u) (hb : Below w1.heap.size w1 wr) : CI w wr es k u := by
  obtain ⟨js, h1, h2, h3, h4, h5⟩ := h
  exact ⟨js, h1, own_below h2 hb, fun j hj => own_below (h3 j hj) hb, h4, h5.trans (hb.mono h5.size)⟩
theorem ci_next {w wr w2 : World} {es js : List FE} {k m n1 c1 g cap cu : Nat} {A1 Au A2 : Option Addr} {c2 : Nat} {u : Value} {is : Bool} {rm : ByteArray} {ns : List ByteArray} {hs : List Int} {o : Obj}
    (h1 : js.length = k) (h2 : wr.ownsRow w.heap.size 57 4 u k (js.flatMap cellsJ)) (h3 : Rows2 wr w.heap.size js) (h4 : ∀ (i : Nat) (e j : FE), es[i]? = some e → js[i]? = some j → toJ e j) (h5 : Below w.heap.size w wr)
    (hrow : wr.ownsRow m 3 1 (.slice Au n1 cu) n1 ((hs.take n1).map fun h => Value.int .i64 (hideOf h))) (hm : w.heap.size ≤ m) (hl : hs.length = n1) (he : es[k]? = some ⟨is, rm, A1, n1, c1, ns, A2, n1, c2, hs⟩)
    (hown : w2.ownsRow w.heap.size 57 4 (.slice (some ⟨g, 0, none⟩) (k + 1) cap) (k + 1) (js.flatMap cellsJ ++ [.string rm, .slice A1 n1 c1, .slice Au n1 cu, .bool is])) (hg : (wr.alloc o).grownBy w2 u.ownBlock) :
    CI w w2 es (k + 1) (.slice (some ⟨g, 0, none⟩) (k + 1) cap) := by
  have hk : KeptC wr w2 := (KeptC.of_below ((Below.refl _ _).alloc (Nat.le_refl _) o)).trans (KeptC.grown hg (h2.alloc o))
  refine ⟨js ++ [⟨is, rm, A1, n1, c1, ns, Au, n1, cu, hs.map hideOf⟩], by simp [h1], by rw [List.flatMap_append]; exact hown, fun j hj => ?_, fun i e j hei hji => ?_, (h5.alloc h5.size o).grown hg (by have := h5.size; simp; omega) (fun x hx => (h2.lt x hx).1)⟩
  · rcases List.mem_append.1 hj with hj | hj
    · exact own_keptC (h3 j hj) hk (by decide)
    · rw [List.mem_singleton] at hj
      subst hj
      have := own_base (own_keptC hrow hk (by decide)) hm
      rw [List.take_of_length_le (by omega)] at this
      simpa [List.map_map, Function.comp_def] using this
  · rcases Nat.lt_or_ge i k with hi | hi
    · rw [List.getElem?_append_left (by omega)] at hji
      exact h4 i e j hei hji
    · have := (List.getElem?_eq_some_iff.1 hji).1
      simp only [List.length_append, List.length_cons, List.length_nil] at this
      obtain rfl : i = k := by omega
      rw [List.getElem?_append_right (by omega), h1, Nat.sub_self] at hji
      simp only [List.getElem?_cons_zero, Option.some.injEq] at hji
      rw [he] at hei
      cases hei
      subst hji
      exact ⟨rfl, rfl, rfl, rfl, rfl, rfl, rfl, rfl⟩

set_option maxRecDepth 100000 in
set_option maxHeartbeats 3200000 in
theorem chain_any (A : Option Addr) (n c : Nat) (es : List FE) (B : Nat) (w : World) (h : FSteps w B A n es) (hB : B ≤ w.heap.size) (hn : n ≤ 12) (hok : ∀ e ∈ es, OkF e) :
    Calls Tryd.prog 14 #[.slice A n c] w (ChPost es w) := by
  have HH := Lib.hid h
  have HL := Lib.hid h.1
  have HO := Lib.hid hok
  clear h hok
  obtain ⟨i0, hi, hz, hsz, hbb⟩ := info_parts info_int
  obtain ⟨i1, hi1, hz1, hsz1, hb1⟩ := info_parts info_cs
  go_enter Tryd.func14, Tryd.ntmps14
  go_wp2
  go_loopw [4, 14] (fun u t wr => ∃ k : Nat, k ≤ n ∧ t = .int .i64 k ∧ Hid (CI w wr es k u)) (fun _ t _ => n - (intOf t).toNat)
  case atStart => exact ⟨0, Nat.zero_le _, rfl, Lib.hid ⟨[], rfl, World.ownsRow_nil _ _ _ _, (fun j hj => by cases hj), (fun i e j _ hj => by simp at hj), Below.refl _ _⟩⟩
  case round =>
    obtain ⟨k, hk, rfl, HC⟩ := hrel
    by_cases hlt : k < n
    · obtain ⟨js, hjl, hown, hr2, hto, hb⟩ := HC.out
      obtain ⟨b, o, e, rfl, hbb', hek, hstr, hints, c0, c1, c2, c3⟩ := (HH.out.below hb hB).at_ hlt
      have hws : w.heap.size ≤ wr.heap.size := hb.size
      have HE := Lib.hid hek
      have HIN := Lib.hid hints
      have hoe := HO.out e (List.mem_of_getElem? hek)
      obtain ⟨is, rm, A1, n1, c1', ns, A2, n2, c2', hs⟩ := e
      obtain ⟨q1, q2, q3, -⟩ := hoe
      simp only at q1 q2 q3 c0 c1 c2 c3 HIN
      subst q1
      have HHS := Lib.hid q3
      clear q3 hek hstr hints hjl hown hr2 hto hb
      obtain ⟨w1, hw1⟩ : ∃ w1, w1 = wr := ⟨_, rfl⟩
      subst hw1
      go_wp2_with fail
      go_loopw [35] (fun t wj => ∃ j : Nat, j ≤ n1 ∧ t = .int .i64 j ∧ ∃ u, Hid (HI w w1 wj (w1.heap.size + 1) w1.heap.size (.string rm) (.slice A1 n1 c1') (.bool is) hs j u)) (fun t _ => n1 - (intOf t).toNat)
      case atStart => exact ⟨0, Nat.zero_le _, rfl, _, Lib.hid (hi_start w w1 _ _ _ hs _ hws)⟩
      case round =>
        obtain ⟨j, hj, rfl, u, HJ⟩ := hrel
        by_cases hjl : j < n1
        · obtain ⟨ad, rfl, hbk, hc0⟩ := HIN.out.at_ hjl
          have hbj : Below w1.heap.size w1 wr := HJ.out.2.2.2.1
          have hc := (hbj.cell (p := ad.add j) (by rw [block_of_add]; omega)).trans hc0
          have hjs : j < hs.length := by rw [Ints.len HIN.out]; exact hjl
          have hget : hs[j]? = some hs[j] := List.getElem?_eq_getElem hjs
          have e0 : hs.getD j 0 = hs[j] := by simp [hjs]
          rw [e0] at hc
          have hhd := HHS.out _ (List.getElem_mem hjs)
          generalize hs[j] = hd at *
          have HG := Lib.hid hget
          obtain ⟨Au, cu, rfl⟩ := own_form HJ.out.2.1
          have hBj := HJ.out.1
          have p2 := hBj.cell 2
          have p2a := fun o => (hBj.alloc o).cell 2
          simp only [List.getElem?_toArray, List.getElem?_cons_zero, List.getElem?_cons_succ] at p2 p2a
          have HHD := Lib.hid hhd
          clear hget e0 hc0 hbj hhd
          go_wp2_with (first
            | (go_at_call 24; refine (hides_any hd _ HHD.out).mono ?_; rintro e9 w9 ⟨rfl, rfl⟩)
            | (at_builtin; refine wpList_append_x _ rfl (.tmp 47) (.tmp 49) 25 rfl w1.heap.size 3 i0 _ 1 8 Tryd.underlying25 hi hz hsz hbb rfl (by omega) _ j _ rfl (HJ.out.2.1.alloc _) (wr.heap.size + 1) (some ⟨wr.heap.size, 0, none⟩) 1 1 [.int .i64 (hideOf hd)] rfl (Reads.ofBlock (cs := #[.int .i64 (hideOf hd)]) (heap_alloc_new _ _) rfl (by omega)) (by simp [Value.oneCell']) (.inr (by omega)) (by unfold maxLen; omega) (by omega) (by have := HJ.out.2.2.2.2.1; simp; omega) (wr.heap.size + 1) (by simp) ?_; intro g2 cap2 w2 hown2 hgrow2 hat2 hlt2; have hB2 := (HJ.out.1.alloc _).grown hgrow2 (fun e => own_blk_ne HJ.out.2.1 HJ.out.1 (by decide) e.symm); have q4 := hB2.cell 2; have q4f := hB2.frozen 2))
          have HN := Lib.hid (hi_step HJ.out rfl HG.out hown2 hgrow2)
          clear hown2 hgrow2 hat2 hB2 q4 q4f p2 p2a hBj
          go_roundw
          case rel => exact ⟨j + 1, by omega, by go_num, _, HN⟩
          case measure => simp [intOf]; omega
        · obtain rfl : j = n1 := by omega
          have hHJ := HJ.out
          obtain ⟨Au, cu, rfl⟩ := own_form hHJ.2.1
          have hBj := hHJ.1
          have p0 := hBj.cell 0
          have p1 := hBj.cell 1
          have p2 := hBj.cell 2
          have p3 := hBj.cell 3
          simp only [List.getElem?_toArray, List.getElem?_cons_zero, List.getElem?_cons_succ] at p0 p1 p2 p3
          have hci := HC.out
          obtain ⟨js, h1, hcs, h3, h4, h5⟩ := ci_hold hci hHJ.2.2.2.1
          have H1 := Lib.hid h1
          have H3 := Lib.hid h3
          have H4 := Lib.hid h4
          have H5 := Lib.hid h5
          have H2 := Lib.hid hcs
          have hsz5 := hHJ.2.2.2.2.1
          clear hci hHJ hBj h1 h3 h4 h5 hcs
          go_wp2_with (at_builtin; refine wpList_append_x _ rfl (.tmp 53) (.tmp 55) 41 rfl w.heap.size 57 i1 _ 4 72 Tryd.underlying41 hi1 hz1 hsz1 hb1 rfl (by omega) u4 k _ rfl (H2.out.alloc _) (wr.heap.size + 1) (some ⟨wr.heap.size, 0, none⟩) 1 1 [.string rm, .slice A1 j c1', .slice Au j cu, .bool is] rfl (Reads.ofBlock (cs := #[.string rm, .slice A1 j c1', .slice Au j cu, .bool is]) (heap_alloc_new _ _) rfl (by omega)) (by simp [Value.oneCell']) (.inr (by omega)) (by unfold maxLen; omega) (by omega) (by simp; omega) (wr.heap.size + 1) (by simp) ?_; intro g2 cap2 w2 hown2 hgrow2 hat2 hlt2)
          have HN := Lib.hid (ci_next H1.out H2.out H3.out H4.out H5.out HJ.out.2.1 hws (Ints.len HIN.out) HE.out hown2 hgrow2)
          clear hown2 hgrow2 hat2
          go_roundw
          case rel => exact ⟨k + 1, by omega, by go_num, HN⟩
          case measure => simp [intOf]; omega
    · obtain rfl : k = n := by omega
      obtain ⟨js, h1, h2, h3, h4, h5⟩ := HC.out
      obtain ⟨A4, c4, rfl⟩ : ∃ A c, u4 = .slice A k c := by
        rcases h2.2 with ⟨rfl, h0⟩ | ⟨g, cap, cur, rfl, _⟩
        · have h6 := h2.1
          rw [h0] at h6
          obtain rfl : k = 0 := by simp at h6; omega
          exact ⟨none, 0, rfl⟩
        · exact ⟨_, cap, rfl⟩
      have HR : Hid (JSteps wr wr.heap.size A4 k js) := Lib.hid ⟨h1, Reads.of_own h2, fun j hj => ⟨?_, Reads.of_own (h3 j hj)⟩⟩
      · have H4 := Lib.hid h4
        have H5 := Lib.hid h5
        clear h1 h2 h3 h4 h5
        go_wp2_with fail
        go_ret2
        exact ⟨⟨A4, c4, js, by rw [HL.out]; rfl, by rw [HL.out]; exact HR.out, H4.out⟩, H5.out⟩
      · obtain ⟨i, hi', rfl⟩ := List.getElem_of_mem hj
        have hil : i < es.length := by rw [HL.out]; omega
        have hh := h4 i _ _ (List.getElem?_eq_getElem hil) (List.getElem?_eq_getElem hi')
        obtain ⟨-, -, e1, e2, -, e3, -⟩ := hh
        rw [e1, e2, e3]
        exact Reads.more (Reads.below (HH.out.2.2 _ (List.getElem_mem hil)).1 (h5.mono hB)) (Nat.le_trans hB h5.size)
end Go.Proofs.YtkbjcpeogecbgaaDoor
