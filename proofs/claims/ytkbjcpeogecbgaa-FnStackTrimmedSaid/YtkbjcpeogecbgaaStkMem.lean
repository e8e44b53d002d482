/-
  A call stack in memory: frames, their maps of names to thunks, thunks of numbers.
-/
import Derived.Test.YtkbjcpeogecbgaaStk
import Derived.Test.YtkbjcpeogecbgaaProg
import Derived.Maps.OwnSet
namespace Go.Proofs.Ytkbjcpeogecbgaa
open Go.RowKit Go.Maps

theorem lawK : Keyed Try.prog 71 := string_keyed Try.underlying71
theorem zeroP (w : World) : (zeroValue 69).run Try.prog w = .ok (.pointer none) w := by kernel_rfl
def keyL (s : ByteArray) : Lit := .string s.data.toList
theorem key_of {s : ByteArray} (h : s.size ≤ maxLen) : keyOf Try.prog 71 (.string s) = some (keyL s) := WideMaps.keyOf_string_mk Try.underlying71 h

/-- How a pointer to a thunk reads: as its block's number; nil as -1. -/
def rdP (v : Value) : Option (DataW Unit × List MemPlace) :=
  match v with
  | .pointer none => some (.lit (.int .i64 (-1)), [])
  | .pointer (some ⟨g, 0, none⟩) => some (.lit (.int .i64 (g : Int)), [])
  | _ => none
theorem rdP_cases {v : Value} {d : DataW Unit} {p : List MemPlace} (h : rdP v = some (d, p)) : (v = .pointer none ∧ d = .lit (.int .i64 (-1))) ∨ ∃ g : Nat, v = .pointer (some ⟨g, 0, none⟩) ∧ d = .lit (.int .i64 (g : Int)) := by
  unfold rdP at h
  split at h
  · injection h with h
    injection h with h1 _
    exact .inl ⟨rfl, h1.symm⟩
  · injection h with h
    injection h with h1 _
    exact .inr ⟨_, rfl, h1.symm⟩
  · cases h
theorem rdP_inj {v v' : Value} {d : DataW Unit} {p p' : List MemPlace} (h : rdP v = some (d, p)) (h' : rdP v' = some (d, p')) : v = v' := by
  rcases rdP_cases h with ⟨h1, h2⟩ | ⟨g, h1, h2⟩ <;> rcases rdP_cases h' with ⟨h3, h4⟩ | ⟨g', h3, h4⟩
  · rw [h1, h3]
  · rw [h2] at h4
    simp at h4
  · rw [h2] at h4
    simp at h4
  · rw [h2] at h4
    simp at h4
    have h5 : g = g' := by omega
    rw [h1, h3, h5]

/-- A thunk of a number, or nil. -/
def ThN (w : World) (B : Nat) (v : Value) : Prop := v = .pointer none ∨ ∃ t g i : Nat, v = .pointer (some ⟨t, 0, none⟩) ∧ t < B ∧ g < B ∧ i ≤ 65535 ∧
  Blk w t 86 #[.pointer none, .nilIface, .iface 77 (.pointer (some ⟨g, 0, none⟩)), .nilIface] ∧ Blk w g 76 #[.float .f64 (floatOfInt .f64 (i : Int))]
def MapN (w : World) (B b : Nat) : Prop := b < B ∧ ∃ n D, w.ownsMap Try.prog 71 rdP b n D ∧ ∀ kl, ∃ v ps, rdP v = some (D.atKey kl (.lit (.int .i64 (-1))), ps) ∧ ThN w B v
/-- A frame: is it a call, can it be trimmed? -/
def FrN (w : World) (B : Nat) (p : Value) (f : Bool × Bool) : Prop := ∃ (g b : Nat) (l1 l2 l3 : Option Addr) (d : Int), p = .pointer (some ⟨g, 0, none⟩) ∧ g < B ∧ MapN w B b ∧
  Blk w g 90 #[.pointer l1, .pointer l2, .map (some b), .pointer l3, .int .i64 d, .bool f.1, .bool f.2]

/-- Blocks that are none of a thunk, a number or a frame, nor a map. -/
def Other (w : World) (row : Option Nat) : Prop := ∀ r, row = some r → ∃ cs t fr, w.heap[r]? = some (.cells cs t fr) ∧ t ≠ 86 ∧ t ≠ 76 ∧ t ≠ 90
theorem Blk.keep {w w' : World} {row : Option Nat} {g : Nat} {t : TypeId} {cs : Array Value} (h : Blk w g t cs) (hg : w.grownBy w' row) (ho : Other w row) (ht : t = 86 ∨ t = 76 ∨ t = 90) : Blk w' g t cs := by
  refine h.grown hg fun e => ?_
  obtain ⟨cs', t', fr, h1, h2, h3, h4⟩ := ho g e.symm
  unfold Blk at h
  rw [h] at h1
  injection h1 with h1
  injection h1 with _ h1
  subst h1
  rcases ht with ht | ht | ht
  · exact h2 ht
  · exact h3 ht
  · exact h4 ht
theorem map_keep {w w' : World} {row : Option Nat} {b n : Nat} {D : DataW Unit} (h : w.ownsMap Try.prog 71 rdP b n D) (hg : w.grownBy w' row) (ho : Other w row) : w'.ownsMap Try.prog 71 rdP b n D := by
  refine h.kept hg fun e => ?_
  obtain ⟨cs', t', fr, h1, -⟩ := ho b e.symm
  obtain ⟨es, clock, hb, -⟩ := h
  rw [hb] at h1
  cases h1
theorem ThN.keep {w w' : World} {B : Nat} {v : Value} {row : Option Nat} (h : ThN w B v) (hg : w.grownBy w' row) (ho : Other w row) : ThN w' B v := by
  rcases h with h | ⟨t, g, i, h1, h2, h3, h4, h5, h6⟩
  · exact .inl h
  · exact .inr ⟨t, g, i, h1, h2, h3, h4, h5.keep hg ho (.inl rfl), h6.keep hg ho (.inr (.inl rfl))⟩
theorem ThN.more {w : World} {B C : Nat} {v : Value} (h : ThN w B v) (hC : B ≤ C) : ThN w C v := by
  rcases h with h | ⟨t, g, i, h1, h2, h3, h4, h5, h6⟩
  · exact .inl h
  · exact .inr ⟨t, g, i, h1, by omega, by omega, h4, h5, h6⟩
theorem ThN.below {w w' : World} {B C : Nat} {v : Value} (h : ThN w B v) (hb : Below C w w') (hC : B ≤ C) : ThN w' B v := by
  rcases h with h | ⟨t, g, i, h1, h2, h3, h4, h5, h6⟩
  · exact .inl h
  · exact .inr ⟨t, g, i, h1, h2, h3, h4, h5.below hb (by omega), h6.below hb (by omega)⟩
theorem MapN.keep {w w' : World} {B b : Nat} {row : Option Nat} (h : MapN w B b) (hg : w.grownBy w' row) (ho : Other w row) : MapN w' B b := by
  obtain ⟨h0, n, D, h1, h2⟩ := h
  exact ⟨h0, n, D, map_keep h1 hg ho, fun kl => by obtain ⟨v, ps, h3, h4⟩ := h2 kl; exact ⟨v, ps, h3, h4.keep hg ho⟩⟩
theorem MapN.more {w : World} {B C b : Nat} (h : MapN w B b) (hC : B ≤ C) : MapN w C b := by
  obtain ⟨h0, n, D, h1, h2⟩ := h
  exact ⟨by omega, n, D, h1, fun kl => by obtain ⟨v, ps, h3, h4⟩ := h2 kl; exact ⟨v, ps, h3, h4.more hC⟩⟩
theorem MapN.below {w w' : World} {B C b : Nat} (h : MapN w B b) (hb : Below C w w') (hC : B ≤ C) : MapN w' B b := by
  obtain ⟨h0, n, D, ⟨es, clock, q1, q2⟩, h2⟩ := h
  exact ⟨h0, n, D, ⟨es, clock, (hb.block b (by omega)).trans q1, q2⟩, fun kl => by obtain ⟨v, ps, h3, h4⟩ := h2 kl; exact ⟨v, ps, h3, h4.below hb hC⟩⟩
theorem FrN.keep {w w' : World} {B : Nat} {p : Value} {f : Bool × Bool} {row : Option Nat} (h : FrN w B p f) (hg : w.grownBy w' row) (ho : Other w row) : FrN w' B p f := by
  obtain ⟨g, b, l1, l2, l3, d, h1, h2, h3, h4⟩ := h
  exact ⟨g, b, l1, l2, l3, d, h1, h2, h3.keep hg ho, h4.keep hg ho (.inr (.inr rfl))⟩
theorem FrN.more {w : World} {B C : Nat} {p : Value} {f : Bool × Bool} (h : FrN w B p f) (hC : B ≤ C) : FrN w C p f := by
  obtain ⟨g, b, l1, l2, l3, d, h1, h2, h3, h4⟩ := h
  exact ⟨g, b, l1, l2, l3, d, h1, by omega, h3.more hC, h4⟩
theorem FrN.below {w w' : World} {B C : Nat} {p : Value} {f : Bool × Bool} (h : FrN w B p f) (hb : Below C w w') (hC : B ≤ C) : FrN w' B p f := by
  obtain ⟨g, b, l1, l2, l3, d, h1, h2, h3, h4⟩ := h
  exact ⟨g, b, l1, l2, l3, d, h1, h2, h3.below hb hC, h4.below hb (by omega)⟩

def Frs (w : World) (B : Nat) (ps : List Value) (F : List (Bool × Bool)) : Prop := ps.length = F.length ∧ ∀ (i : Nat) (p : Value) (f : Bool × Bool), ps[i]? = some p → F[i]? = some f → FrN w B p f
theorem Frs.nil (w : World) (B : Nat) : Frs w B [] [] := ⟨rfl, fun i p f h => by simp at h⟩
theorem Frs.keep {w w' : World} {B : Nat} {ps : List Value} {F : List (Bool × Bool)} {row : Option Nat} (h : Frs w B ps F) (hg : w.grownBy w' row) (ho : Other w row) : Frs w' B ps F := ⟨h.1, fun i p f a b => (h.2 i p f a b).keep hg ho⟩
theorem Frs.more {w : World} {B C : Nat} {ps : List Value} {F : List (Bool × Bool)} (h : Frs w B ps F) (hC : B ≤ C) : Frs w C ps F := ⟨h.1, fun i p f a b => (h.2 i p f a b).more hC⟩
theorem Frs.below {w w' : World} {B C : Nat} {ps : List Value} {F : List (Bool × Bool)} (h : Frs w B ps F) (hb : Below C w w') (hC : B ≤ C) : Frs w' B ps F := ⟨h.1, fun i p f a b => (h.2 i p f a b).below hb hC⟩
theorem Frs.take {w : World} {B : Nat} {ps : List Value} {F : List (Bool × Bool)} (h : Frs w B ps F) (k : Nat) : Frs w B (ps.take k) (F.take k) := by
  refine ⟨by simp [h.1], fun i p f a b => ?_⟩
  rw [List.getElem?_take] at a b
  split at a
  · rw [if_pos (by assumption)] at b
    exact h.2 i p f a b
  · cases a
theorem Frs.snoc {w : World} {B : Nat} {ps : List Value} {F : List (Bool × Bool)} {p : Value} {f : Bool × Bool} (h : Frs w B ps F) (k : FrN w B p f) : Frs w B (ps ++ [p]) (F ++ [f]) := by
  refine ⟨by simp [h.1], fun i q y a b => ?_⟩
  rcases Nat.lt_or_ge i ps.length with hi | hi
  · rw [List.getElem?_append_left hi] at a
    rw [List.getElem?_append_left (by rw [← h.1]; exact hi)] at b
    exact h.2 i q y a b
  · rw [List.getElem?_append_right hi] at a
    rw [List.getElem?_append_right (by rw [← h.1]; exact hi)] at b
    rw [← h.1] at b
    generalize i - ps.length = j at *
    rcases j with _ | j
    · simp at a b; subst a b; exact k
    · simp at a

/-- What a method of the stack may turn: blocks that are a stack, or a list of frames. -/
def KeptT (w w' : World) : Prop := w.heap.size ≤ w'.heap.size ∧
  ∀ (k : Nat) (o : Obj), w.heap[k]? = some o → (∀ cs fr, o ≠ Obj.cells cs 47 fr) → (∀ cs fr, o ≠ Obj.cells cs 88 fr) → w'.heap[k]? = some o
theorem KeptT.refl (w : World) : KeptT w w := ⟨Nat.le_refl _, fun _ _ h _ _ => h⟩
theorem KeptT.trans {a b c : World} (h : KeptT a b) (k : KeptT b c) : KeptT a c := ⟨Nat.le_trans h.1 k.1, fun i o h1 h2 h3 => k.2 i o (h.2 i o h1 h2 h3) h2 h3⟩
theorem KeptT.drew {a b : World} (h : KeptT a b) : KeptT a b.drew := h
theorem KeptT.drewN {a b : World} (h : KeptT a b) (n : Nat) : KeptT a (b.drewN n) := h
theorem KeptT.of_below {w w' : World} (h : Below w.heap.size w w') : KeptT w w' := ⟨h.size, fun k o h1 _ _ => (h.block k (by
  rcases Nat.lt_or_ge k w.heap.size with hlt | hge
  · exact hlt
  · rw [Array.getElem?_eq_none hge] at h1; cases h1)).trans h1⟩
theorem KeptT.alloc {a b : World} (h : KeptT a b) (o : Obj) : KeptT a (b.alloc o) := h.trans (KeptT.of_below ((Below.refl _ _).alloc (Nat.le_refl _) _))
/-- A cell of a stack is written. -/
theorem KeptT.set {a b : World} {bS : Nat} {cs : Array Value} (h : KeptT a b) (hb : Blk b bS 47 cs) (k : Nat) (u : Value) : KeptT a (b.setCell ⟨bS, k, none⟩ u) := by
  refine h.trans ⟨by simp [World.setCell], fun i o h1 h2 _ => ?_⟩
  have hne : i ≠ bS := by
    rintro rfl
    unfold Blk at hb
    rw [hb] at h1
    injection h1 with h1
    exact h2 _ _ h1.symm
  exact (Below.heap_setCell b ⟨bS, k, none⟩ u i hne).trans h1
theorem KeptT.grown {a b c : World} {base n : Nat} {v : Value} {xs : List Value} (h : KeptT a b) (hg : b.grownBy c v.ownBlock) (ho : b.ownsRow base 88 1 v n xs) : KeptT a c := by
  refine h.trans ⟨hg.size, fun i o h1 _ h3 => ?_⟩
  have hlt : i < b.heap.size := by
    rcases Nat.lt_or_ge i b.heap.size with hlt | hge
    · exact hlt
    · rw [Array.getElem?_eq_none hge] at h1; cases h1
  refine (hg.block i hlt fun e => ?_).trans h1
  rcases ho.2 with ⟨rfl, _⟩ | ⟨g, cap, cur, rfl, _, hh, _⟩
  · simp [Value.ownBlock] at e
  · have : g = i := by simpa [Value.ownBlock] using e.symm
    subst this
    rw [hh] at h1
    injection h1 with h1
    exact h3 _ _ h1.symm
theorem Blk.keptT {w w' : World} {g : Nat} {t : TypeId} {cs : Array Value} (h : Blk w g t cs) (hk : KeptT w w') (h1 : t ≠ 47) (h2 : t ≠ 88) : Blk w' g t cs := by
  refine hk.2 g _ h ?_ ?_
  · intro cs' fr e
    injection e with _ e
    exact h1 e
  · intro cs' fr e
    injection e with _ e
    exact h2 e
theorem own_keptT {w w' : World} {base e size n : Nat} {v : Value} {xs : List Value} (h : w.ownsRow base e size v n xs) (hk : KeptT w w') (h1 : e ≠ 47) (h2 : e ≠ 88) : w'.ownsRow base e size v n xs := by
  refine ⟨h.1, ?_⟩
  rcases h.2 with h3 | ⟨g, cap, cur, h4, h5, h6, h7⟩
  · exact .inl h3
  · exact .inr ⟨g, cap, cur, h4, h5, Blk.keptT h6 hk h1 h2, h7⟩
theorem ThN.keptT {w w' : World} {B : Nat} {v : Value} (h : ThN w B v) (hk : KeptT w w') : ThN w' B v := by
  rcases h with h | ⟨t, g, i, h1, h2, h3, h4, h5, h6⟩
  · exact .inl h
  · exact .inr ⟨t, g, i, h1, h2, h3, h4, h5.keptT hk (by decide) (by decide), h6.keptT hk (by decide) (by decide)⟩
theorem MapN.keptT {w w' : World} {B b : Nat} (h : MapN w B b) (hk : KeptT w w') : MapN w' B b := by
  obtain ⟨h0, n, D, ⟨es, clock, q1, q2⟩, h2⟩ := h
  refine ⟨h0, n, D, ⟨es, clock, hk.2 b _ q1 ?_ ?_, q2⟩, fun kl => by obtain ⟨v, ps, h3, h4⟩ := h2 kl; exact ⟨v, ps, h3, h4.keptT hk⟩⟩
  · intro cs fr e; cases e
  · intro cs fr e; cases e
theorem FrN.keptT {w w' : World} {B : Nat} {p : Value} {f : Bool × Bool} (h : FrN w B p f) (hk : KeptT w w') : FrN w' B p f := by
  obtain ⟨g, b, l1, l2, l3, d, h1, h2, h3, h4⟩ := h
  exact ⟨g, b, l1, l2, l3, d, h1, h2, h3.keptT hk, h4.keptT hk (by decide) (by decide)⟩
theorem Frs.keptT {w w' : World} {B : Nat} {ps : List Value} {F : List (Bool × Bool)} (h : Frs w B ps F) (hk : KeptT w w') : Frs w' B ps F := ⟨h.1, fun i p f a b => (h.2 i p f a b).keptT hk⟩

/-- The stack: its frames, its count of calls, its trace. -/
def SI (w : World) (base bS : Nat) (F : List (Bool × Bool)) (c : Int) (t1 t2 : Option Addr) : Prop :=
  ∃ v ps lim, Blk w bS 47 #[.pointer t1, .pointer t2, v, .int .i64 c, .int .i64 lim] ∧ w.ownsRow base 88 1 v F.length ps ∧ Frs w w.heap.size ps F
def MPost (base bS : Nat) (F : List (Bool × Bool)) (c : Int) (t1 t2 : Option Addr) (w : World) (e : Ending) (w' : World) : Prop :=
  e = .returned (.tuple #[]) ∧ SI w' base bS F c t1 t2 ∧ Below base w w' ∧ KeptT w w'
end Go.Proofs.Ytkbjcpeogecbgaa
