/-
  ast.FodderMoveFront: the second fodder goes ahead of the first one, and is empty behind the call.
-/
import Derived.Test.YthinfliplpjdjaaImplConcat
namespace Go.Proofs.Ythinfliplpjdjaa
open Go.RowKit

theorem blk_ne_of_cell {w : World} {p : Nat} {t : TypeId} {X : Option Addr} {y z b o : Nat} {u : Value} (hb : Blk w p t #[.slice X y z]) (hc : w.cell? ⟨b, o, none⟩ = some u) (h : 1 ≤ o) : b ≠ p := by
  rintro rfl
  rw [hb.cell o] at hc
  rw [Array.getElem?_eq_none (by simpa using h)] at hc
  cases hc
theorem blk_ne_of_string {w : World} {p : Nat} {t : TypeId} {X : Option Addr} {y z : Nat} {a : Addr} {s : ByteArray} (hb : Blk w p t #[.slice X y z]) (hc : w.cell? a = some (.string s)) : a ≠ ⟨p, 0, none⟩ := by
  rintro rfl
  rw [hb.cell 0] at hc
  cases hc
theorem FodR.set_ {w : World} {B : Nat} {A : Option Addr} {n : Nat} {gs : List CE} {p : Nat} {t : TypeId} {X : Option Addr} {y z : Nat} (h : FodR w B A n gs) (hb : Blk w p t #[.slice X y z]) (u : Value) : FodR (w.setCell ⟨p, 0, none⟩ u) B A n gs := by
  obtain ⟨h1, h2, h3⟩ := h
  refine ⟨h1, ⟨h2.1, fun hn => ?_⟩, fun e he => ?_⟩
  · obtain ⟨ad, hA, hB, hc⟩ := h2.2 hn
    refine ⟨ad, hA, hB, fun j v hj => ?_⟩
    refine (World.cell?_setCell_other w _ _ u ?_).trans (hc j v hj)
    intro heq
    obtain ⟨b, o, e, hA2, -, -, -, -, -, -, c3⟩ := FodR.at_ (w := w) ⟨h1, h2, h3⟩ (k := 0) hn
    rw [hA] at hA2
    injection hA2 with hA2
    subst hA2
    have hne := blk_ne_of_cell hb c3 (by omega)
    have := congrArg Addr.block heq
    rw [block_of_add] at this
    exact hne this.symm
  · have hs := h3 e he
    refine ⟨hs.1, fun hn => ?_⟩
    obtain ⟨ad, hA, hB, hc⟩ := hs.2 hn
    refine ⟨ad, hA, hB, fun j v hj => ?_⟩
    have h4 := hc j v hj
    have hstr : ∃ s, v = .string s := by
      simp only [List.getElem?_map, Option.map_eq_some_iff] at hj
      obtain ⟨s, -, rfl⟩ := hj
      exact ⟨s, rfl⟩
    obtain ⟨s, rfl⟩ := hstr
    exact (World.cell?_setCell_other w _ _ u (Ne.symm (blk_ne_of_string hb h4))).trans h4

/-- What FodderMoveFront leaves. -/
def MovePost (w : World) (base pa pb : Nat) (row : Option Nat) (gs : List CE) (e : Ending) (w' : World) : Prop :=
  e = .returned (.tuple #[]) ∧ ∃ A n c g, Blk w' pa 58 #[.slice A n c] ∧ FodR w' w'.heap.size A n gs ∧ Blk w' pb 58 #[.slice (some ⟨g, 0, none⟩) 0 0] ∧ Below base w w' ∧
    ∀ k, k < w.heap.size → k ≠ pa → k ≠ pb → some k ≠ row → w'.heap[k]? = w.heap[k]?

set_option maxRecDepth 100000 in
set_option maxHeartbeats 1600000 in
theorem move_any (pa pb base : Nat) (A1 A2 : Option Addr) (n1 c1 n2 c2 : Nat) (fa fb : List CE) (w : World) (ha : Blk w pa 58 #[.slice A1 n1 c1]) (hb : Blk w pb 58 #[.slice A2 n2 c2])
    (h1 : Fod w base (.slice A1 n1 c1) fa) (h2 : Fod w base (.slice A2 n2 c2) fb) (hne : pa ≠ pb) (hpa : base ≤ pa) (hpb : base ≤ pb)
    (hsep : (Value.slice A2 n2 c2).ownBlock = none ∨ (Value.slice A2 n2 c2).ownBlock ≠ (Value.slice A1 n1 c1).ownBlock) (hbase : base ≤ w.heap.size) (hn1 : n1 ≤ 1000000) (hn2 : n2 ≤ 1000000)
    (hd : cleanB fb = false → ∀ b0, fa[0]? = some b0 → fb ≠ [] → b0.k ≠ 2) (t1 : Tame fa) (t2 : Tame fb) :
    Calls Try.prog 77 #[.pointer (some ⟨pa, 0, none⟩), .pointer (some ⟨pb, 0, none⟩)] w (MovePost w base pa pb (Value.slice A2 n2 c2).ownBlock (concatC fb fa)) := by
  have x1 : w.cell? ⟨pa, 0, none⟩ = some (.slice A1 n1 c1) := ha.cell 0
  have x2 : w.cell? ⟨pb, 0, none⟩ = some (.slice A2 n2 c2) := hb.cell 0
  have HA := Lib.hid ha
  have HB := Lib.hid hb
  have HNE := Lib.hid hne
  have CC := Lib.hid (concat_all A2 A1 n2 c2 n1 c1 fb fa base w.drew (show Fod w.drew base (.slice A2 n2 c2) fb from h2) (show Fod w.drew base (.slice A1 n1 c1) fa from h1) hsep hbase hn2 hn1 hd t2 t1)
  have NA := Lib.hid (own_blk_ne h2.1 ha (by decide))
  have NB := Lib.hid (own_blk_ne h2.1 hb (by decide))
  have LT := Lib.hid h2.1.lt
  clear ha hb h1 h2 hd t1 t2 hsep hne
  go_enter Try.func77, Try.ntmps77
  go_wp2_with fail
  go_region_law ((go_simp; go_at_call 40; refine CC.out.mono ?_; rintro e w1 ⟨A, n, c, rfl, hr1, hb1, hg1⟩; have q0 : w1.cell? ⟨pa, 0, none⟩ = some (.slice A1 n1 c1) := (HA.out.drew.grown hg1 (Ne.symm NA.out)).cell 0; have qf : w1.frozen? ⟨pa, 0, none⟩ = false := (HA.out.drew.grown hg1 (Ne.symm NA.out)).frozen 0))
  all_goals
    have kA := HA.out.drew.grown hg1 (Ne.symm NA.out)
    have kB := HB.out.drew.grown hg1 (Ne.symm NB.out)
    have hA2 : Blk (w1.setCell ⟨pa, 0, none⟩ (.slice A n c)) pa 58 #[.slice A n c] := kA.set_ 0 _
    have hB2 : Blk (w1.setCell ⟨pa, 0, none⟩ (.slice A n c)) pb 58 #[.slice A2 n2 c2] := kB.far (p := ⟨pa, 0, none⟩) (Ne.symm HNE.out) _
    have hr2 := FodR.set_ hr1 kA (.slice A n c)
    have hbel : Below base w w1 := ⟨hb1.os, hb1.tape, hb1.output, hb1.size, hb1.block⟩
    have hb2 : Below base w (w1.setCell ⟨pa, 0, none⟩ (.slice A n c)) := hbel.setCell hpa _
    have hf2 : ∀ k, k < w.heap.size → k ≠ pa → k ≠ pb → some k ≠ (Value.slice A2 n2 c2).ownBlock → (w1.setCell ⟨pa, 0, none⟩ (.slice A n c)).heap[k]? = w.heap[k]? := fun k hk e1 _ e3 =>
      (Below.heap_setCell w1 ⟨pa, 0, none⟩ _ k e1).trans (hg1.block k hk e3)
    have hsz : (w1.setCell ⟨pa, 0, none⟩ (.slice A n c)).heap.size = w1.heap.size := by simp [World.setCell]
    rw [← hsz] at hr2
    clear kA kB hbel hr1 hb1 hg1 q0 qf hsz x1 x2
    generalize w1.setCell ⟨pa, 0, none⟩ (.slice A n c) = W2 at *
    have y2 : W2.cell? ⟨pb, 0, none⟩ = some (.slice A2 n2 c2) := hB2.cell 0
    have yf : W2.frozen? ⟨pb, 0, none⟩ = false := hB2.frozen 0
    have hl2 : pb < W2.heap.size := hB2.lt
    have GA := Lib.hid hA2
    have GB := Lib.hid hB2
    have GR := Lib.hid hr2
    have GBL := Lib.hid hb2
    have GF := Lib.hid hf2
    clear hA2 hB2 hr2 hb2 hf2
    go_wp2
    go_end0
    have hne := HNE.out
    have kA := (GA.out.far (p := ⟨pb, 0, none⟩) hne (.slice (some ⟨W2.heap.size, 0, none⟩) 0 0)).alloc (.cells #[] 74)
    have kB : Blk ((W2.setCell ⟨pb, 0, none⟩ (.slice (some ⟨W2.heap.size, 0, none⟩) 0 0)).alloc (.cells #[] 74)) pb 58 #[.slice (some ⟨W2.heap.size, 0, none⟩) 0 0] := Blk.alloc (GB.out.set_ 0 (.slice (some ⟨W2.heap.size, 0, none⟩) 0 0)) (.cells #[] 74)
    have hsz : (W2.setCell ⟨pb, 0, none⟩ (.slice (some ⟨W2.heap.size, 0, none⟩) 0 0)).heap.size = W2.heap.size := by simp [World.setCell]
    have kR0 : FodR (W2.setCell ⟨pb, 0, none⟩ (.slice (some ⟨W2.heap.size, 0, none⟩) 0 0)) (W2.setCell ⟨pb, 0, none⟩ (.slice (some ⟨W2.heap.size, 0, none⟩) 0 0)).heap.size A n (concatC fb fa) := by
      rw [hsz]; exact FodR.set_ GR.out GB.out (.slice (some ⟨W2.heap.size, 0, none⟩) 0 0)
    have kR := FodR.alloc (o := .cells #[] 74) kR0
    have hb3 : Below base w (W2.setCell ⟨pb, 0, none⟩ (.slice (some ⟨W2.heap.size, 0, none⟩) 0 0)) := GBL.out.setCell hpb _
    refine ⟨rfl, A, n, c, W2.heap.size, kA, ?_, kB, hb3.alloc (Nat.le_trans hbase hb3.size) _, fun k hk e1 e2 e3 => ?_⟩
    · simpa using kR
    · refine (Below.heap_alloc _ _ k (Nat.lt_of_lt_of_le hk hb3.size)).trans ((Below.heap_setCell W2 ⟨pb, 0, none⟩ _ k e2).trans (GF.out k hk e1 e2 e3))
end Go.Proofs.Ythinfliplpjdjaa
