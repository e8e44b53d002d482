/-
  Nodes of trees as data, as they lie in memory; trees whose sizes fit.
-/
import Derived.Test.YtdhhdnopilfifaaRows
import Derived.Test.YtdhhdnopilfifaaWords
import Derived.Outline
import Derived.Deep.QuietTactic
import Derived.BigQuiet
import Derived.IntWalk
import Derived.OwnWalk
namespace Go.Proofs.Ytdhhdnopilfifaa
open Go.RowKit

structure ND where
  kind : Int
  op : Int
  text : ByteArray
  flag : Int
  size : Int
def cellsN (e : ND) : List Value := [.int .i64 e.kind, .int .i64 e.op, .string e.text, .int .i64 e.flag, .int .i64 e.size]
def aggN (e : ND) : Value := .agg #[.int .i64 e.kind, .int .i64 e.op, .string e.text, .int .i64 e.flag, .int .i64 e.size]
/-- Nodes that are read. -/
def Nodes (w : World) (B : Nat) (A : Option Addr) (n : Nat) (es : List ND) : Prop := es.length = n ∧ Reads w B 5 A n (es.flatMap cellsN)
theorem flatN_get : ∀ (es : List ND) (k j : Nat) (e : ND), es[k]? = some e → j < 5 → (es.flatMap cellsN)[k * 5 + j]? = (cellsN e)[j]?
  | [], k, j, e, h, _ => by simp at h
  | x :: es, 0, j, e, h, hj => by
    simp at h
    subst h
    rw [List.flatMap_cons, List.getElem?_append_left (by simp [cellsN]; omega)]
    simp
  | x :: es, k + 1, j, e, h, hj => by
    have hl : (cellsN x).length = 5 := rfl
    rw [List.flatMap_cons, List.getElem?_append_right (by rw [hl]; omega), hl]
    have e1 : (k + 1) * 5 + j - 5 = k * 5 + j := by omega
    rw [e1]
    exact flatN_get es k j e (by simpa using h) hj
theorem flatN_len : ∀ es : List ND, (es.flatMap cellsN).length = es.length * 5
  | [] => rfl
  | e :: r => by
    rw [List.flatMap_cons, List.length_append, flatN_len r, List.length_cons]
    show 5 + _ = _
    omega
theorem Nodes.at_ {w : World} {B : Nat} {A : Option Addr} {n : Nat} {es : List ND} (h : Nodes w B A n es) {k : Nat} (hk : k < n) :
    ∃ b o e, A = some ⟨b, o, none⟩ ∧ b < B ∧ es[k]? = some e ∧ w.cell? ⟨b, o + k * 5, none⟩ = some (.int .i64 e.kind) ∧ w.cell? ⟨b, o + k * 5 + 1, none⟩ = some (.int .i64 e.op) ∧
      w.cell? ⟨b, o + k * 5 + 2, none⟩ = some (.string e.text) ∧ w.cell? ⟨b, o + k * 5 + 3, none⟩ = some (.int .i64 e.flag) ∧ w.cell? ⟨b, o + k * 5 + 4, none⟩ = some (.int .i64 e.size) := by
  obtain ⟨hl, hr⟩ := h
  obtain ⟨ad, hA, hb, hc⟩ := hr.2 (by omega)
  have hkl : k < es.length := by omega
  have hke := List.getElem?_eq_getElem hkl
  have g := fun j (hj : j < 5) => flatN_get es k j _ hke hj
  obtain ⟨b, o, spot⟩ := ad
  have c0 := hc (0 * 5 + 0) _ (flatN_get es 0 0 _ (List.getElem?_eq_getElem (show 0 < es.length by omega)) (by omega))
  obtain rfl : spot = none := by simpa [Addr.add] using World.cell?_spot c0
  have e0 := hc (k * 5 + 0) _ (g 0 (by omega))
  have e1 := hc (k * 5 + 1) _ (g 1 (by omega))
  have e2 := hc (k * 5 + 2) _ (g 2 (by omega))
  have e3 := hc (k * 5 + 3) _ (g 3 (by omega))
  have e4 := hc (k * 5 + 4) _ (g 4 (by omega))
  simp only [Addr.add_lit, ← Nat.add_assoc, Nat.add_zero] at e0 e1 e2 e3 e4
  exact ⟨b, o, es[k], hA, hb, hke, e0, e1, e2, e3, e4⟩
theorem Nodes.below {w w' : World} {B C : Nat} {A : Option Addr} {n : Nat} {es : List ND} (h : Nodes w B A n es) (hb : Below C w w') (hC : B ≤ C) : Nodes w' B A n es := ⟨h.1, h.2.below (hb.mono hC)⟩
theorem Nodes.more {w : World} {B B' : Nat} {A : Option Addr} {n : Nat} {es : List ND} (h : Nodes w B A n es) (hb : B ≤ B') : Nodes w B' A n es := ⟨h.1, h.2.more hb⟩
/-- What is known of the texts of nodes that came in. -/
def SoundN (es : List ND) : Prop := ∀ e ∈ es, e.text.size ≤ maxLen ∧ -9223372036854775808 ≤ e.size ∧ e.size ≤ 9223372036854775807

theorem heap_lt {w : World} {k : Nat} {o : Obj} (h : w.heap[k]? = some o) : k < w.heap.size := by
  rcases Nat.lt_or_ge k w.heap.size with hlt | hge
  · exact hlt
  · rw [Array.getElem?_eq_none hge] at h; cases h
theorem belowS_alloc {a w' : World} (h : Below a.heap.size a w') (o : Obj) : Below a.heap.size a (w'.alloc o) := h.alloc h.size o
theorem below_drewN {B : Nat} {w w' : World} (h : Below B w w') : ∀ q, Below B w (w'.drewN q)
  | 0 => h
  | q + 1 => (below_drewN h q).drew
theorem own_form {w : World} {base e n : Nat} {v : Value} {xs : List Value} (h : w.ownsRow base e 1 v n xs) : ∃ A c, v = .slice A n c := by
  rcases h.2 with ⟨rfl, h0⟩ | ⟨g, cap, cur, rfl, _⟩
  · exact ⟨none, 0, by rw [h0]⟩
  · exact ⟨_, cap, rfl⟩
theorem own_base {w : World} {base base' e size n : Nat} {v : Value} {xs : List Value} (h : w.ownsRow base e size v n xs) (hb : base' ≤ base) : w.ownsRow base' e size v n xs := by
  refine ⟨h.1, ?_⟩
  rcases h.2 with h4 | ⟨g, cap, cur, h5, h6, h7, h8⟩
  · exact .inl h4
  · exact .inr ⟨g, cap, cur, h5, Nat.le_trans hb h6, h7, h8⟩
theorem own_below {w w' : World} {base e size n : Nat} {v : Value} {xs : List Value} (h : w.ownsRow base e size v n xs) (hb : Below w.heap.size w w') : w'.ownsRow base e size v n xs := by
  refine ⟨h.1, ?_⟩
  rcases h.2 with h4 | ⟨g, cap, cur, h5, h6, h7, h8⟩
  · exact .inl h4
  · exact .inr ⟨g, cap, cur, h5, h6, Blk.below h7 hb (Blk.lt h7), h8⟩
theorem Reads.ofBlock {w : World} {B size n g : Nat} {cs : Array Value} {t : TypeId} {fr : Nat × Nat} (h : w.heap[g]? = some (.cells cs t fr)) (hs : cs.size = n * size) (hg : g < B) : Reads w B size (some ⟨g, 0, none⟩) n cs.toList :=
  ⟨by simpa using hs, fun _ => ⟨_, rfl, hg, World.news_of_block h⟩⟩
theorem info_int : (Try.prog.info? 3).map (fun i => (i.zero, i.size, i.bytes)) = some (some (.int .i64 0), 1, 8) := by kernel_rfl

/-- A truth is answered; if it is true, something holds. -/
def BPost (P : Prop) (w : World) (e : Ending) (w' : World) : Prop := (∃ b, e = .returned (.bool b) ∧ (b = true → P)) ∧ Below w.heap.size w w'
theorem BPost.ret {P : Prop} {w w' : World} {b : Bool} {v : Value} (hv : v = .bool b) (h : b = true → P) (hb : Below w.heap.size w w') : BPost P w (.returned v) w' := ⟨⟨b, by rw [hv], h⟩, hb⟩
/-- A number is answered. -/
def IPost (P : Int → Prop) (w : World) (e : Ending) (w' : World) : Prop := (∃ r : Int, e = .returned (.int .i64 r) ∧ P r) ∧ Below w.heap.size w w'

/-- The kids from a place on, up to an end. -/
inductive KidsIs (es : List ND) : Nat → Nat → List Nat → Prop
  | nil (e : Nat) : KidsIs es e e []
  | cons {k e : Nat} {x : ND} {l : List Nat} (hx : es[k]? = some x) (h1 : 1 ≤ x.size) (h2 : (k : Int) + x.size ≤ e) (h : KidsIs es (k + x.size.toNat) e l) : KidsIs es k e (k :: l)
theorem KidsIs.le {es : List ND} {k e : Nat} {l : List Nat} (h : KidsIs es k e l) : k ≤ e := by
  induction h with
  | nil => exact Nat.le_refl _
  | cons hx h1 h2 h ih => omega
theorem KidsIs.mem {es : List ND} {k e : Nat} {l : List Nat} (h : KidsIs es k e l) : ∀ a ∈ l, k ≤ a ∧ a < e := by
  induction h with
  | nil => intro a ha; cases ha
  | cons hx h1 h2 h ih =>
    intro a ha
    have := h.le
    rcases List.mem_cons.1 ha with rfl | ha
    · omega
    · have := ih a ha; omega
theorem KidsIs.len {es : List ND} {k e : Nat} {l : List Nat} (h : KidsIs es k e l) : l.length ≤ e - k := by
  induction h with
  | nil => simp
  | cons hx h1 h2 h ih => have := h.le; simp only [List.length_cons]; omega
/-- A node's size fits ahead of an end, and its kids fill it. -/
def FitN (es : List ND) (n : Nat) (i : Nat) (l : List Nat) : Prop := ∃ x, es[i]? = some x ∧ 1 ≤ x.size ∧ (i : Int) + x.size ≤ n ∧ KidsIs es (i + 1) (i + x.size.toNat) l
/-- A tree, with each node's kids. -/
def Tree (es : List ND) (kl : Nat → List Nat) : Prop := ∀ i, i < es.length → FitN es es.length i (kl i)
theorem tree_of {es : List ND} (h : ∀ i, i < es.length → ∃ l, FitN es es.length i l) : ∃ kl, Tree es kl := by
  refine ⟨fun i => if hi : i < es.length then (h i hi).choose else [], fun i hi => ?_⟩
  simp only [hi, dif_pos]
  exact (h i hi).choose_spec
theorem kind_split (k : Int) : k < 1 ∨ k = 1 ∨ k = 2 ∨ k = 3 ∨ k = 4 ∨ k = 5 ∨ k = 6 ∨ k = 7 ∨ k = 8 ∨ k = 9 ∨ k = 10 ∨ k = 11 ∨ k = 12 ∨ k = 13 ∨ k = 14 ∨ k = 15 ∨ k = 16 ∨ k = 17 ∨ k = 18 ∨ k = 19 ∨ k = 20 ∨ k = 21 ∨ k = 22 ∨ k = 23 ∨ k = 24 ∨ k = 25 ∨ k = 26 ∨ k = 27 ∨ k = 28 ∨ k = 29 ∨ k = 30 ∨ k = 31 ∨ k = 32 ∨ k = 33 ∨ k = 34 ∨ k = 35 ∨ k = 36 ∨ k = 37 ∨ k = 38 ∨ k = 39 ∨ 39 < k := by omega
/-- Is a node of an expression; of one of some kinds. -/
def Ex (es : List ND) (k : Nat) : Prop := ∃ e, es[k]? = some e ∧ 1 ≤ e.kind ∧ e.kind ≤ 30
def Kd (es : List ND) (ks : List Int) (k : Nat) : Prop := ∃ e, es[k]? = some e ∧ e.kind ∈ ks
end Go.Proofs.Ytdhhdnopilfifaa
