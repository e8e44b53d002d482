/-
  ast.FodderAppend, of a line's end without a comment behind a line's end: the two become one. (Fodder that the call owns; blank lines of no great number.)
-/
import Derived.Test.YthinfliplpjdjaaConcat
namespace Go.Proofs.Ythinfliplpjdjaa
open Go.RowKit

/-- Two lines' ends as one. -/
def merged (l e : CE) : CE := { l with i := e.i, b := l.b + e.b }

theorem merge_cells (fs : List CE) (m : Nat) (l e : CE) (hl : fs[m]? = some l) : (fs.set m (merged l e)).flatMap cellsF = ((fs.flatMap cellsF).set (m * 4 + 3) (.int .i64 e.i)).set (m * 4 + 2) (.int .i64 (l.b + e.b)) := by
  have hm := (List.getElem?_eq_some_iff.1 hl).1
  have h1 : (fs.set m { l with i := e.i }).flatMap cellsF = (fs.flatMap cellsF).set (m * 4 + 3) (.int .i64 e.i) :=
    flatMap_set cellsF (fun _ => rfl) fs m 3 _ _ hm (by omega) (fun x hx => by
      have := hl.symm.trans hx
      cases this
      rfl)
  have h2 : ((fs.set m { l with i := e.i }).set m (merged l e)).flatMap cellsF = ((fs.set m { l with i := e.i }).flatMap cellsF).set (m * 4 + 2) (.int .i64 (l.b + e.b)) :=
    flatMap_set cellsF (fun _ => rfl) _ m 2 _ _ (by simpa using hm) (by omega) (fun x hx => by
      simp only [List.getElem?_set_self hm, Option.some.injEq] at hx
      subst hx
      rfl)
  rw [List.set_set] at h2
  rw [h2, h1]

theorem merge_close {w : World} {p base g m c nq : Nat} {fs : List CE} {l e : CE} {O : Obj} (hf : Fod w base (.slice (some ⟨g, 0, none⟩) (m + 1) c) fs) (hbk : Blk w p 58 #[.slice (some ⟨g, 0, none⟩) (m + 1) c])
    (hl : fs[m]? = some l) (hn : m + 1 = fs.length) (hown : w.ownsRow base 74 4 (.slice (some ⟨g, 0, none⟩) (m + 1) c) (m + 1) (fs.flatMap cellsF)) :
    AppPost w base p (.slice (some ⟨g, 0, none⟩) (m + 1) c) (fs.set m (merged l e)) (.returned (.tuple #[]))
      ((((w.alloc O).drewN nq).setCell ⟨g, m * 4 + 3, none⟩ (.int .i64 e.i)).setCell ⟨g, m * 4 + 2, none⟩ (.int .i64 (l.b + e.b))).drew := by
  have hgp : g ≠ p := fun h => own_blk_ne hf.1 hbk (by decide) (by rw [h]; rfl)
  have hbut : But w ((((w.alloc O).drewN nq).setCell ⟨g, m * 4 + 3, none⟩ (.int .i64 e.i)).setCell ⟨g, m * 4 + 2, none⟩ (.int .i64 (l.b + e.b))).drew p (some g) :=
    ((((But.refl w p (some g)).alloc O).drewN nq).setP (.inr (.inl rfl)) _ |>.setP (.inr (.inl rfl)) _).drew
  have hb2 : Blk ((((w.alloc O).drewN nq).setCell ⟨g, m * 4 + 3, none⟩ (.int .i64 e.i)).setCell ⟨g, m * 4 + 2, none⟩ (.int .i64 (l.b + e.b))).drew p 58 #[.slice (some ⟨g, 0, none⟩) (m + 1) c] :=
    ((((hbk.alloc O).drewN nq).far (p := ⟨g, m * 4 + 3, none⟩) (Ne.symm hgp) _).far (p := ⟨g, m * 4 + 2, none⟩) (Ne.symm hgp) _).drew
  refine ⟨rfl, _, hb2, ⟨?_, ?_⟩, hbut, .inl rfl⟩
  · have h1 : ((w.alloc O).drewN nq).ownsRow base 74 4 (.slice (some ⟨g, 0, none⟩) (m + 1) c) (m + 1) (fs.flatMap cellsF) := hown.alloc O
    have h2 := ((h1.stored (m * 4 + 3) (.int .i64 e.i)).1.stored (m * 4 + 2) (.int .i64 (l.b + e.b))).1.drew
    rw [List.length_set, ← hn, merge_cells fs m l e hl]
    exact h2
  · have key : ∀ {y : CE}, w.ownsRow base 9 1 (.slice y.A y.n y.c) y.n (y.cs.map Value.string) → ((((w.alloc O).drewN nq).setCell ⟨g, m * 4 + 3, none⟩ (.int .i64 e.i)).setCell ⟨g, m * 4 + 2, none⟩ (.int .i64 (l.b + e.b))).drew.ownsRow base 9 1 (.slice y.A y.n y.c) y.n (y.cs.map Value.string) := fun hy =>
      hbut.own hy (own_blk_ne hy hbk (by decide)) (own_own_ne hy hf.1 (by decide))
    intro x hx
    rcases List.mem_or_eq_of_mem_set hx with h | rfl
    · exact key (hf.2 x h)
    · exact key (y := merged l e) (hf.2 l (List.mem_of_getElem? hl))

set_option maxRecDepth 100000 in
set_option maxHeartbeats 1600000 in
theorem append_merge (p base g m c : Nat) (fs : List CE) (l e : CE) (w : World) (hbk : Blk w p 58 #[.slice (some ⟨g, 0, none⟩) (m + 1) c]) (hf : Fod w base (.slice (some ⟨g, 0, none⟩) (m + 1) c) fs)
    (hl : fs[m]? = some l) (hm : m + 1 ≤ 2147483647) (hlk : (l.k != 1) = true) (hk : e.k = 0) (hen : e.n = 0)
    (b0 : 0 ≤ l.b) (b1 : l.b ≤ 1000000) (b2 : 0 ≤ e.b) (b3 : e.b ≤ 1000000) :
    Calls Try.prog 53 #[.pointer (some ⟨p, 0, none⟩), .agg #[.slice e.A e.n e.c, .int .i64 e.k, .int .i64 e.b, .int .i64 e.i]] w (AppPost w base p (.slice (some ⟨g, 0, none⟩) (m + 1) c) (fs.set m (merged l e))) := by
  rw [hk, hen]
  have hn' : m + 1 = fs.length := Fod.n_eq hf
  have hC : cleanB fs = true := by
    unfold cleanB
    rw [← hn', Nat.add_sub_cancel, hl]
    exact hlk
  have hR : FodR (w.alloc (.cells #[.slice e.A 0 e.c, .int .i64 0, .int .i64 e.b, .int .i64 e.i] 74)) (w.heap.size + 1) (some ⟨g, 0, none⟩) (m + 1) fs := (Fod.reads hf).alloc
  have HF := Lib.hid hf
  have HK := Lib.hid hbk
  have HR := Lib.hid hR
  have HC := Lib.hid hC
  have HN := Lib.hid hn'
  have HNE := Lib.hid (own_blk_ne hf.1 hbk (by decide))
  have p0 : w.cell? ⟨p, 0, none⟩ = some (.slice (some ⟨g, 0, none⟩) (m + 1) c) := hbk.cell 0
  have hlp : p < w.heap.size := hbk.lt
  have hown : w.ownsRow base 74 4 (.slice (some ⟨g, 0, none⟩) (m + 1) c) (m + 1) (fs.flatMap cellsF) := by have := hf.1; rwa [← hn'] at this
  have hgw := hown.lt g rfl
  have c2 : w.cell? ⟨g, m * 4 + 2, none⟩ = some (.int .i64 l.b) := by rw [hown.cellAt _ (by omega), flatMap_get4 cellsF (fun _ => rfl) _ m 2 l hl (by omega)]; rfl
  have c3 : w.cell? ⟨g, m * 4 + 3, none⟩ = some (.int .i64 l.i) := by rw [hown.cellAt _ (by omega), flatMap_get4 cellsF (fun _ => rfl) _ m 3 l hl (by omega)]; rfl
  have f2 : w.frozen? ⟨g, m * 4 + 2, none⟩ = false := hown.frozenAt _
  have f3 : w.frozen? ⟨g, m * 4 + 3, none⟩ = false := hown.frozenAt _
  have hgp : ¬ g = p := fun h => own_blk_ne hf.1 hbk (by decide) (by rw [h]; rfl)
  have hgp' : ¬ p = g := fun h => hgp h.symm
  have hlg : g < w.heap.size := hgw.2
  have HO := Lib.hid hown
  have i0 : (0 : Int) ≤ (m : Int) := by omega
  have i1 : (m : Int) < (m : Int) + 1 := by omega
  clear hf hbk hR hC hn' hk hown
  go_enter Try.func53, Try.ntmps53
  go_wp2_with (go_at_call 67; refine (HC.out ▸ clean_any (some ⟨g, 0, none⟩) (m + 1) c fs (w.heap.size + 1) _ HR.out (by unfold maxLen; omega)).mono ?_; rintro e1 w1 ⟨rfl, rfl⟩)
  go_quiet (fail)
  go_wp2
  go_region
  all_goals
    go_end0
    exact merge_close HF.out HK.out hl HN.out HO.out
end Go.Proofs.Ythinfliplpjdjaa
