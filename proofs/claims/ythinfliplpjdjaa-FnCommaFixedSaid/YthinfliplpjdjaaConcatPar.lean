/-
  ast.FodderAppend, of a line's end with a comment behind a line's end: it becomes a paragraph. (Fodder that the call owns; the comment is not empty.)
-/
import Derived.Test.YthinfliplpjdjaaConcat
namespace Go.Proofs.Ythinfliplpjdjaa
open Go.RowKit

set_option maxRecDepth 100000 in
set_option maxHeartbeats 1600000 in
/-- A line's end with a comment, behind a line's end: it becomes a paragraph. -/
theorem append_par (p : Nat) (base : Nat) (v : Value) (A : Option Addr) (n c : Nat) (hv : v = .slice A n c) (fs : List CE) (e : CE) (w : World) (hbk : Blk w p 58 #[v]) (hf : Fod w base v fs)
    (he : w.ownsRow base 9 1 (.slice e.A e.n e.c) e.n (e.cs.map Value.string)) (hbase : base ≤ w.heap.size) (hn : n ≤ 2147483647) (hC : cleanB fs = true) (hk : e.k = 0) (hp : 0 < e.n) (hen : e.n ≤ 2147483647) :
    Calls Try.prog 53 #[.pointer (some ⟨p, 0, none⟩), .agg #[.slice e.A e.n e.c, .int .i64 e.k, .int .i64 e.b, .int .i64 e.i]] w (AppPost w base p v (fs ++ [{ e with k := 2 }])) := by
  subst hv
  rw [hk]
  have hn' : n = fs.length := Fod.n_eq hf
  have hR : FodR (w.alloc (.cells #[.slice e.A e.n e.c, .int .i64 0, .int .i64 e.b, .int .i64 e.i] 74)) (w.heap.size + 1) A n fs := (Fod.reads hf).alloc
  have HF := Lib.hid hf
  have HK := Lib.hid hbk
  have HE := Lib.hid he
  have HR := Lib.hid hR
  have HC := Lib.hid hC
  have HN := Lib.hid hn'
  have hfl : fs.length ≤ 2147483647 := by omega
  have HNE := Lib.hid (own_blk_ne hf.1 hbk (by decide))
  have p0 : w.cell? ⟨p, 0, none⟩ = some (.slice A n c) := hbk.cell 0
  have hlp : p < w.heap.size := hbk.lt
  have p3 : ∀ o1 o2 o3, (((w.alloc o1).alloc o2).alloc o3).cell? ⟨p, 0, none⟩ = some (.slice A n c) := fun o1 o2 o3 => (((hbk.alloc o1).alloc o2).alloc o3).cell 0
  clear hf hbk he hR hC hn' hk
  have i0 : (0 : Int) < (e.n : Int) := by omega
  obtain ⟨i74, hi74, hz74, hs74, hb74⟩ := info_parts info_fod
  go_enter Try.func53, Try.ntmps53
  go_wp2_with (go_at_call 67; refine (HC.out ▸ clean_any A n c fs (w.heap.size + 1) _ HR.out (by unfold maxLen; omega)).mono ?_; rintro e1 w1 ⟨rfl, rfl⟩)
  go_region_law (first | (refine step_append_x _ (by rfl) _ _ 58 (by rfl) base 74 i74 _ 4 48 Try.underlying58 hi74 hz74 hs74 hb74 rfl (by omega) (.slice A n c) fs.length (fs.flatMap cellsF) (by rfl) (((((HF.out.1).alloc _).alloc _).alloc _).drew) (w.heap.size + 3) (some ⟨w.heap.size + 2, 0, none⟩) 1 1 (cellsF { e with k := 2 }) (by rfl) (Reads.ofBlock (cs := #[.slice e.A e.n e.c, .int .i64 2, .int .i64 e.b, .int .i64 e.i]) (heap_new3 w _ _ _) rfl (by omega)) (by simp [cellsF, Value.oneCell']) (.inr (by omega)) (by unfold maxLen; omega) (by omega) (by simp; omega) (w.heap.size + 3) (by simp) ?_; intro g2 cap2 w2 hown2 hgrow2 hat2 hlt2; have q0 : w2.cell? ⟨p, 0, none⟩ = some (.slice A n c) := (keepP3 HK.out hgrow2 HNE.out).cell 0; have qf : w2.frozen? ⟨p, 0, none⟩ = false := (keepP3 HK.out hgrow2 HNE.out).frozen 0) | (go_simp; go_at_call 68; refine (make_par e.b e.i e.A e.n e.c _ hp (by unfold maxLen; omega)).mono ?_; rintro e1 w1 ⟨rfl, rfl⟩))
  all_goals
    go_end0
    exact app_close3 (e := { e with k := 2 }) HF.out HK.out HE.out (by omega) hown2 hgrow2 hat2
end Go.Proofs.Ythinfliplpjdjaa
