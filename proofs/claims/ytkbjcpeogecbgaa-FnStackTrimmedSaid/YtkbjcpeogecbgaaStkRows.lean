/-
  Three rows of numbers that grow beside a stack: each append turns its own row alone.
-/
import Derived.Test.YtkbjcpeogecbgaaStkOps
namespace Go.Proofs.Ytkbjcpeogecbgaa
open Go.RowKit Go.Maps

/-- What appends to rows of numbers may turn: blocks that are rows of numbers. -/
def KeptI (w w' : World) : Prop := w.heap.size ≤ w'.heap.size ∧
  ∀ (k : Nat) (o : Obj), w.heap[k]? = some o → (∀ cs fr, o ≠ Obj.cells cs 3 fr) → w'.heap[k]? = some o
theorem KeptI.refl (w : World) : KeptI w w := ⟨Nat.le_refl _, fun _ _ h _ => h⟩
theorem KeptI.trans {a b c : World} (h : KeptI a b) (k : KeptI b c) : KeptI a c := ⟨Nat.le_trans h.1 k.1, fun i o h1 h2 => k.2 i o (h.2 i o h1 h2) h2⟩
theorem KeptI.drew {a b : World} (h : KeptI a b) : KeptI a b.drew := h
theorem KeptI.of_below {w w' : World} (h : Below w.heap.size w w') : KeptI w w' := ⟨h.size, fun k o h1 _ => (h.block k (by
  rcases Nat.lt_or_ge k w.heap.size with hlt | hge
  · exact hlt
  · rw [Array.getElem?_eq_none hge] at h1; cases h1)).trans h1⟩
theorem KeptI.grown {b c : World} {base n : Nat} {v : Value} {xs : List Value} (hg : b.grownBy c v.ownBlock) (ho : b.ownsRow base 3 1 v n xs) : KeptI b c := by
  refine ⟨hg.size, fun i o h1 h3 => ?_⟩
  have hlt : i < b.heap.size := by
    rcases Nat.lt_or_ge i b.heap.size with hlt | hge
    · exact hlt
    · rw [Array.getElem?_eq_none hge] at h1; cases h1
  refine (hg.block i hlt fun e => ?_).trans h1
  rcases ho.2 with ⟨rfl, _⟩ | ⟨g, cap, cur, rfl, _, hh, _⟩
  · simp [Value.ownBlock] at e
  · have : g = i := by simpa [Value.ownBlock] using e.symm
    subst this
    rw [hh] at h1
    injection h1 with h1
    exact h3 _ _ h1.symm
theorem Blk.keptI {w w' : World} {g : Nat} {t : TypeId} {cs : Array Value} (h : Blk w g t cs) (hk : KeptI w w') (h1 : t ≠ 3) : Blk w' g t cs := by
  refine hk.2 g _ h ?_
  intro cs' fr e
  injection e with _ e
  exact h1 e
theorem own_keptI {w w' : World} {base e size n : Nat} {v : Value} {xs : List Value} (h : w.ownsRow base e size v n xs) (hk : KeptI w w') (h1 : e ≠ 3) : w'.ownsRow base e size v n xs := by
  refine ⟨h.1, ?_⟩
  rcases h.2 with h3 | ⟨g, cap, cur, h4, h5, h6, h7⟩
  · exact .inl h3
  · exact .inr ⟨g, cap, cur, h4, h5, Blk.keptI h6 hk h1, h7⟩
theorem ThN.keptI {w w' : World} {B : Nat} {v : Value} (h : ThN w B v) (hk : KeptI w w') : ThN w' B v := by
  rcases h with h | ⟨t, g, i, h1, h2, h3, h4, h5, h6⟩
  · exact .inl h
  · exact .inr ⟨t, g, i, h1, h2, h3, h4, h5.keptI hk (by decide), h6.keptI hk (by decide)⟩
theorem MapN.keptI {w w' : World} {B b : Nat} (h : MapN w B b) (hk : KeptI w w') : MapN w' B b := by
  obtain ⟨h0, n, D, ⟨es, clock, q1, q2⟩, h2⟩ := h
  refine ⟨h0, n, D, ⟨es, clock, hk.2 b _ q1 ?_, q2⟩, fun kl => by obtain ⟨v, ps, h3, h4⟩ := h2 kl; exact ⟨v, ps, h3, h4.keptI hk⟩⟩
  intro cs fr e; cases e
theorem FrN.keptI {w w' : World} {B : Nat} {p : Value} {f : Bool × Bool} (h : FrN w B p f) (hk : KeptI w w') : FrN w' B p f := by
  obtain ⟨g, b, l1, l2, l3, d, h1, h2, h3, h4⟩ := h
  exact ⟨g, b, l1, l2, l3, d, h1, h2, h3.keptI hk, h4.keptI hk (by decide)⟩
theorem Frs.keptI {w w' : World} {B : Nat} {ps : List Value} {F : List (Bool × Bool)} (h : Frs w B ps F) (hk : KeptI w w') : Frs w' B ps F := ⟨h.1, fun i p f a b => (h.2 i p f a b).keptI hk⟩
theorem SI.keptI {w w' : World} {base bS : Nat} {F : List (Bool × Bool)} {c : Int} {t1 t2 : Option Addr} (h : SI w base bS F c t1 t2) (hk : KeptI w w') : SI w' base bS F c t1 t2 := by
  obtain ⟨v, ps, lim, h1, h2, h3⟩ := h
  exact ⟨v, ps, lim, h1.keptI hk (by decide), own_keptI h2 hk (by decide), (h3.keptI hk).more hk.1⟩

theorem Reads.ofBlk {w : World} {g : Nat} {t : TypeId} {x : Value} (h : Blk w g t #[x]) : Reads w w.heap.size 1 (some ⟨g, 0, none⟩) 1 [x] :=
  ⟨rfl, fun _ => ⟨_, rfl, h.lt, World.news_of_block h⟩⟩

/-- Three rows of numbers, each in a block of its own; blocks of one number each, apart from all rows. -/
structure M3 (w0 w : World) (base : Nat) (pd : List (Nat × Value)) (v0 : Value) (n0 : Nat) (l0 : List Value) (v1 : Value) (n1 : Nat) (l1 : List Value) (v2 : Value) (n2 : Nat) (l2 : List Value) : Prop where
  keep : KeptI w0 w
  bel : Below base w0 w
  bw : base ≤ w.heap.size
  o0 : w.ownsRow base 3 1 v0 n0 l0
  o1 : w.ownsRow base 3 1 v1 n1 l1
  o2 : w.ownsRow base 3 1 v2 n2 l2
  d01 : ∀ g, v0.ownBlock = some g → v1.ownBlock ≠ some g
  d02 : ∀ g, v0.ownBlock = some g → v2.ownBlock ≠ some g
  d12 : ∀ g, v1.ownBlock = some g → v2.ownBlock ≠ some g
  pen : ∀ g x, (g, x) ∈ pd → Blk w g 3 #[x] ∧ v0.ownBlock ≠ some g ∧ v1.ownBlock ≠ some g ∧ v2.ownBlock ≠ some g

section
variable {w0 w w' : World} {base n0 n1 n2 : Nat} {pd : List (Nat × Value)} {v0 v1 v2 : Value} {l0 l1 l2 : List Value}
theorem M3.drew (h : M3 w0 w base pd v0 n0 l0 v1 n1 l1 v2 n2 l2) : M3 w0 w.drew base pd v0 n0 l0 v1 n1 l1 v2 n2 l2 :=
  ⟨h.keep.drew, h.bel.drew, h.bw, h.o0, h.o1, h.o2, h.d01, h.d02, h.d12, h.pen⟩
theorem M3.rot (h : M3 w0 w base pd v0 n0 l0 v1 n1 l1 v2 n2 l2) : M3 w0 w base pd v1 n1 l1 v2 n2 l2 v0 n0 l0 :=
  ⟨h.keep, h.bel, h.bw, h.o1, h.o2, h.o0, h.d12, fun g a b => h.d01 g b a, fun g a b => h.d02 g b a, fun g x hx => ⟨(h.pen g x hx).1, (h.pen g x hx).2.2.1, (h.pen g x hx).2.2.2, (h.pen g x hx).2.1⟩⟩
theorem own_lt_size {w : World} {base e size n : Nat} {v : Value} {xs : List Value} (h : w.ownsRow base e size v n xs) : v.ownBlock ≠ some w.heap.size := by
  intro e
  have := (h.lt _ e).2
  omega
theorem M3.build (h : M3 w0 w base pd v0 n0 l0 v1 n1 l1 v2 n2 l2) (x : Value) : M3 w0 (w.alloc (.cells #[x] 3)) base ((w.heap.size, x) :: pd) v0 n0 l0 v1 n1 l1 v2 n2 l2 := by
  refine ⟨h.keep.trans (KeptI.of_below ((Below.refl _ _).alloc (Nat.le_refl _) _)), h.bel.alloc h.bw _, by have := h.bw; simp; omega, h.o0.alloc _, h.o1.alloc _, h.o2.alloc _, h.d01, h.d02, h.d12, fun g y hy => ?_⟩
  rcases List.mem_cons.1 hy with hy | hy
  · cases hy
    exact ⟨Blk.new _ _ _, own_lt_size h.o0, own_lt_size h.o1, own_lt_size h.o2⟩
  · obtain ⟨a, b⟩ := h.pen g y hy
    exact ⟨a.alloc _, b⟩
theorem M3.app (h : M3 w0 w base pd v0 n0 l0 v1 n1 l1 v2 n2 l2) {v' : Value} {m : Nat} {l' : List Value} {g' cap : Nat} (hv : v' = .slice (some ⟨g', 0, none⟩) m cap) (hown : w'.ownsRow base 3 1 v' m l') (hg : w.grownBy w' v0.ownBlock) (hat : v0.ownBlock = some g' ∨ g' = w.heap.size) :
    M3 w0 w' base pd v' m l' v1 n1 l1 v2 n2 l2 := by
  have hb : v'.ownBlock = some g' := by rw [hv]; rfl
  have hne : ∀ {v : Value}, (∀ g, v0.ownBlock = some g → v.ownBlock ≠ some g) → v.ownBlock = none ∨ v.ownBlock ≠ v0.ownBlock := by
    intro v hv
    cases hq : v0.ownBlock with
    | none =>
      cases hr : v.ownBlock with
      | none => exact .inl rfl
      | some _ => exact .inr (by simp)
    | some g => exact .inr (hv g hq)
  have hap : ∀ {v : Value}, (∀ g, v0.ownBlock = some g → v.ownBlock ≠ some g) → v.ownBlock ≠ some w.heap.size → ∀ g, v'.ownBlock = some g → v.ownBlock ≠ some g := by
    intro v h1 h2 g he
    rw [hb] at he
    cases he
    rcases hat with hat | rfl
    · exact h1 _ hat
    · exact h2
  refine ⟨h.keep.trans (KeptI.grown hg h.o0), h.bel.grown hg h.bw (fun k hk => (h.o0.lt k hk).1), Nat.le_trans h.bw hg.size, hown, h.o1.kept hg (hne h.d01), h.o2.kept hg (hne h.d02), hap h.d01 (own_lt_size h.o1), hap h.d02 (own_lt_size h.o2), h.d12, fun g x hx => ?_⟩
  obtain ⟨a, b, c, d⟩ := h.pen g x hx
  refine ⟨a.grown hg (fun e => b e.symm), ?_, c, d⟩
  rw [hb]
  rcases hat with hat | rfl
  · rw [← hat]; exact b
  · intro e
    injection e with e
    have := a.lt
    omega
theorem info_int : (Try.prog.info? 3).map (fun i => (i.zero, i.size, i.bytes)) = some (some (.int .i64 0), 1, 8) := by kernel_rfl
/-- An append to the first of the rows, as one step of a region that draws. -/
theorem M3.step {ops : Array Oper} {o : Oper} {a : Act} {K : Act → World → Prop} {Q : Exit → Act → World → Prop} {E : Prop} (hgd : o.guard = none) (s x : Operand)
    (ho : o.op = .call { callee := .builtin .append, args := #[s, x], argTypes := #[28, 28] }) (hs : a.eval s = v0) (g : Nat) (y : Value) (hx : a.eval x = .slice (some ⟨g, 0, none⟩) 1 1)
    (hM : M3 w0 w base pd v0 n0 l0 v1 n1 l1 v2 n2 l2) (hm : (g, y) ∈ pd) (hn : n0 ≤ 1000) (hy : y.oneCell' = true)
    (h : ∀ g' cap w', M3 w0 w' base pd (.slice (some ⟨g', 0, none⟩) (n0 + 1) cap) (n0 + 1) (l0 ++ [y]) v1 n1 l1 v2 n2 l2 → K (a.put o.dst (.slice (some ⟨g', 0, none⟩) (n0 + 1) cap)) w') :
    if Region.wanted o (yielded ops a.tmps) = true then Oper.wp Try.prog o a w K Q else E := by
  obtain ⟨i0, hi, hz, hsz, hbb⟩ := info_parts info_int
  have hp := (hM.pen g y hm).1
  refine step_append_x _ hgd s x 28 ho base 3 i0 _ 1 8 Try.underlying28 hi hz hsz hbb rfl (by omega) v0 n0 l0 hs hM.o0 w.heap.size (some ⟨g, 0, none⟩) 1 1 [y] hx (Reads.ofBlk hp) (by simpa using hy) (.inr (by omega)) (by unfold maxLen; omega) (by omega) hM.bw w.heap.size rfl ?_
  intro g3 cap3 w2 hown2 hgrow2 hat2 _
  exact h g3 cap3 w2 (hM.app rfl hown2 hgrow2 hat2)
end
end Go.Proofs.Ytkbjcpeogecbgaa
