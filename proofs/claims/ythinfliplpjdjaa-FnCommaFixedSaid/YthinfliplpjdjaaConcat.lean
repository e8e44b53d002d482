/-
  ast.FodderAppend and ast.FodderConcat on fodder that the call owns.
-/
import Derived.Test.YthinfliplpjdjaaStill
import Derived.Deep.RegionLaw
import Derived.Deep.RegionWith
namespace Go.Proofs.Ythinfliplpjdjaa
open Go.RowKit

/-- Fodder ends a line: it has a last element, which is no comment within a line. -/
def cleanB (fs : List CE) : Bool := match fs[fs.length - 1]? with | some x => x.k != 1 | none => false

theorem clean_none (A : Option Addr) (c : Nat) (w : World) : Calls Try.prog 67 #[.slice A 0 c] w fun e w' => e = .returned (.bool false) ∧ w = w' := by
  go_enter Try.func67, Try.ntmps67
  go_wp2
  go_ret
  exact ⟨rfl, rfl⟩
theorem clean_some (b o m c : Nat) (k : Int) (w : World) (hm : m + 1 ≤ maxLen) (d : w.cell? ⟨b, o + m * 4 + 1, none⟩ = some (.int .i64 k)) :
    Calls Try.prog 67 #[.slice (some ⟨b, o, none⟩) (m + 1) c] w fun e w' => e = .returned (.bool (k != 1)) ∧ w = w' := by
  unfold maxLen at hm
  have i1 : (0 : Int) < (m : Int) + 1 := by omega
  go_enter Try.func67, Try.ntmps67
  go_wp2
  go_ret
  exact ⟨rfl, rfl⟩
theorem clean_any (A : Option Addr) (n c : Nat) (fs : List CE) (B : Nat) (w : World) (h : FodR w B A n fs) (hn : n ≤ maxLen) :
    Calls Try.prog 67 #[.slice A n c] w fun e w' => e = .returned (.bool (cleanB fs)) ∧ w = w' := by
  have hl := h.1
  rcases Nat.eq_zero_or_pos n with rfl | hp
  · have : cleanB fs = false := by
      unfold cleanB
      rw [List.getElem?_eq_none (by omega)]
    rw [this]
    exact clean_none A c w
  · obtain ⟨m, rfl⟩ : ∃ m, n = m + 1 := ⟨n - 1, by omega⟩
    obtain ⟨b, o, x, rfl, _, hx, _, _, d1, _⟩ := h.at_ (show m < m + 1 by omega)
    have : cleanB fs = (x.k != 1) := by
      unfold cleanB
      rw [hl, Nat.add_sub_cancel, hx]
    rw [this]
    exact clean_some b o m c x.k w hn d1

/-- A paragraph of at least one line. -/
theorem make_par (b i : Int) (A : Option Addr) (n c : Nat) (w : World) (hn : 0 < n) (hn2 : n ≤ maxLen) :
    Calls Try.prog 68 #[.int .i64 2, .int .i64 b, .int .i64 i, .slice A n c] w fun e w' => e = .returned (.agg #[.slice A n c, .int .i64 2, .int .i64 b, .int .i64 i]) ∧
      w' = w.alloc (.cells #[.slice A n c, .int .i64 2, .int .i64 b, .int .i64 i] 74) := by
  unfold maxLen at hn2
  have h1 : ((n : Int) == 0) = false := by simp; omega
  have h2 : ¬ ((n : Int) = 0) := by omega
  go_enter Try.func68, Try.ntmps68
  go_wp2
  exact bodyPost_ret (v := .agg #[.slice A n c, .int .i64 2, .int .i64 b, .int .i64 i]) (by simp [results, Try.results68, go_sem]) rfl ⟨rfl, rfl⟩

/-- The world w' is w but for block p, for one row, and for new blocks. -/
structure But (w w' : World) (p : Nat) (row : Option Nat) : Prop where
  os : w'.os = w.os
  tape : w'.tape = w.tape
  output : w'.output = w.output
  size : w.heap.size ≤ w'.heap.size
  block : ∀ k, k < w.heap.size → k ≠ p → some k ≠ row → w'.heap[k]? = w.heap[k]?
section
variable {w w' w2 : World} {p : Nat} {row : Option Nat}
theorem But.refl (w : World) (p : Nat) (row : Option Nat) : But w w p row := ⟨rfl, rfl, rfl, Nat.le_refl _, fun _ _ _ _ => rfl⟩
theorem But.drew (h : But w w' p row) : But w w'.drew p row := ⟨h.os, h.tape, h.output, h.size, h.block⟩
theorem But.drewN (h : But w w' p row) (n : Nat) : But w (w'.drewN n) p row := ⟨h.os, h.tape, h.output, h.size, h.block⟩
theorem But.alloc (h : But w w' p row) (o : Obj) : But w (w'.alloc o) p row :=
  ⟨h.os, h.tape, h.output, Nat.le_trans h.size (by simp), fun k hk h1 h2 => (Below.heap_alloc _ o k (Nat.lt_of_lt_of_le hk h.size)).trans (h.block k hk h1 h2)⟩
theorem But.grown (h : But w w' p row) (hg : w'.grownBy w2 row) : But w w2 p row :=
  ⟨hg.os.trans h.os, hg.tape.trans h.tape, hg.output.trans h.output, Nat.le_trans h.size hg.size, fun k hk h1 h2 => (hg.block k (Nat.lt_of_lt_of_le hk h.size) h2).trans (h.block k hk h1 h2)⟩
theorem But.below_ (h : But w w' p row) (hb : Below w'.heap.size w' w2) : But w w2 p row :=
  ⟨hb.os.trans h.os, hb.tape.trans h.tape, hb.output.trans h.output, Nat.le_trans h.size hb.size, fun k hk h1 h2 => (hb.block k (Nat.lt_of_lt_of_le hk h.size)).trans (h.block k hk h1 h2)⟩
theorem But.setP (h : But w w' p row) {a : Addr} (ha : a.block = p ∨ some a.block = row ∨ w.heap.size ≤ a.block) (u : Value) : But w (w'.setCell a u) p row :=
  ⟨h.os, h.tape, h.output, by simpa [World.setCell] using h.size, fun k hk h1 h2 => (Below.heap_setCell _ a u k (by
    rintro rfl
    rcases ha with ha | ha | ha
    · exact h1 ha
    · exact h2 ha
    · omega)).trans (h.block k hk h1 h2)⟩
theorem But.below {B : Nat} (h : But w w' p row) (hB : B ≤ w.heap.size) (hp : B ≤ p) (hr : ∀ k, row = some k → B ≤ k) : Below B w w' :=
  ⟨h.os, h.tape, h.output, h.size, fun k hk => h.block k (by omega) (by omega) (fun e => by have := hr k e.symm; omega)⟩
theorem But.own (h : But w w' p row) {base : Nat} {e : TypeId} {size : Nat} {v : Value} {n : Nat} {xs : List Value} (ho : w.ownsRow base e size v n xs) (h1 : v.ownBlock ≠ some p) (h2 : v.ownBlock = none ∨ v.ownBlock ≠ row) : w'.ownsRow base e size v n xs := by
  refine ⟨ho.1, ?_⟩
  rcases ho.2 with hn | ⟨g, cap, cur, rfl, hb, hgg, rest⟩
  · exact .inl hn
  · refine .inr ⟨g, cap, cur, rfl, hb, ?_, rest⟩
    rw [h.block g (own_lt hgg) (fun e => h1 (by simp [Value.ownBlock, e])) (by simpa [Value.ownBlock] using h2)]
    exact hgg
end

/-- A slice and one element more. -/
theorem fod_snoc {w w' : World} {base p : Nat} {v : Value} {fs : List CE} {e : CE} {g cap : Nat} (hf : Fod w base v fs) (hb : But w w' p v.ownBlock) (hpt : ∃ cs, Blk w p 58 cs)
    (he : w.ownsRow base 9 1 (.slice e.A e.n e.c) e.n (e.cs.map Value.string))
    (hown : w'.ownsRow base 74 4 (.slice (some ⟨g, 0, none⟩) (fs.length + 1) cap) (fs.length + 1) (fs.flatMap cellsF ++ cellsF e)) :
    Fod w' base (.slice (some ⟨g, 0, none⟩) (fs.length + 1) cap) (fs ++ [e]) := by
  obtain ⟨cs, hbk⟩ := hpt
  refine ⟨by simpa using hown, fun x hx => ?_⟩
  have key : ∀ {y : CE}, w.ownsRow base 9 1 (.slice y.A y.n y.c) y.n (y.cs.map Value.string) → w'.ownsRow base 9 1 (.slice y.A y.n y.c) y.n (y.cs.map Value.string) := fun hy =>
    hb.own hy (own_blk_ne hy hbk (by decide)) (own_own_ne hy hf.1 (by decide))
  rw [List.mem_append] at hx
  rcases hx with hx | hx
  · exact key (hf.2 x hx)
  · simp only [List.mem_singleton] at hx
    subst hx
    exact key he

theorem Fod.n_eq {w : World} {base : Nat} {A : Option Addr} {n c : Nat} {fs : List CE} (h : Fod w base (.slice A n c) fs) : n = fs.length := by
  rcases h.1.2 with ⟨hv, hz⟩ | ⟨g, cap, cur, hv, _⟩
  · injection hv with h1 h2 h3; omega
  · injection hv
theorem Fod.reads {w : World} {base : Nat} {A : Option Addr} {n c : Nat} {fs : List CE} (h : Fod w base (.slice A n c) fs) : FodR w w.heap.size A n fs := by
  obtain rfl := h.n_eq
  exact ⟨rfl, Reads.of_own h.1, fun e he => Reads.of_own (h.2 e he)⟩
theorem FodR.alloc {w : World} {A : Option Addr} {n : Nat} {fs : List CE} {o : Obj} (h : FodR w w.heap.size A n fs) : FodR (w.alloc o) (w.heap.size + 1) A n fs :=
  ⟨h.1, (h.2.1.alloc (Nat.le_refl _) o).more (by omega), fun e he => Reads.more (Strs.alloc (h.2.2 e he) (Nat.le_refl _) o) (by omega)⟩

theorem heap_new2 (w : World) (o1 o2 : Obj) : ((w.alloc o1).alloc o2).heap[w.heap.size + 1]? = some o2 := by
  have h := heap_alloc_new (w.alloc o1) o2
  rwa [World.size_alloc] at h

theorem keepP {w w2 : World} {O1 O2 : Obj} {p : Nat} {t : TypeId} {cs : Array Value} {row : Option Nat} (hbk : Blk w p t cs) (hg : (((w.alloc O1).alloc O2).drew).grownBy w2 row) (hne : row ≠ some p) : Blk w2 p t cs :=
  (((hbk.alloc _).alloc _).drew).grown hg (Ne.symm hne)

theorem heap_new3 (w : World) (o1 o2 o3 : Obj) : (((w.alloc o1).alloc o2).alloc o3).heap[w.heap.size + 2]? = some o3 := by
  have h := heap_new2 (w.alloc o1) o2 o3
  rwa [World.size_alloc] at h
theorem keepP3 {w w2 : World} {O1 O2 O3 : Obj} {p : Nat} {t : TypeId} {cs : Array Value} {row : Option Nat} (hbk : Blk w p t cs) (hg : ((((w.alloc O1).alloc O2).alloc O3).drew).grownBy w2 row) (hne : row ≠ some p) : Blk w2 p t cs :=
  ((((hbk.alloc _).alloc _).alloc _).drew).grown hg (Ne.symm hne)

/-- What FodderAppend leaves: the slice at p holds gs. -/
def AppPost (w : World) (base p : Nat) (v : Value) (gs : List CE) (e : Ending) (w' : World) : Prop :=
  e = .returned (.tuple #[]) ∧ ∃ v', Blk w' p 58 #[v'] ∧ Fod w' base v' gs ∧ But w w' p v.ownBlock ∧ (v'.ownBlock = v.ownBlock ∨ ∀ g, v'.ownBlock = some g → w.heap.size ≤ g)

theorem app_close {w w2 : World} {O1 O2 : Obj} {base p : Nat} {v : Value} {fs : List CE} {e : CE} {g2 cap2 H : Nat} (hf : Fod w base v fs) (hbk : Blk w p 58 #[v])
    (he : w.ownsRow base 9 1 (.slice e.A e.n e.c) e.n (e.cs.map Value.string)) (hH : w.heap.size ≤ H)
    (hown2 : w2.ownsRow base 74 4 (.slice (some ⟨g2, 0, none⟩) (fs.length + 1) cap2) (fs.length + 1) (fs.flatMap cellsF ++ cellsF e))
    (hgrow2 : (((w.alloc O1).alloc O2).drew).grownBy w2 v.ownBlock) (hat2 : v.ownBlock = some g2 ∨ g2 = H) :
    AppPost w base p v (fs ++ [e]) (.returned (.tuple #[])) (w2.setCell ⟨p, 0, none⟩ (.slice (some ⟨g2, 0, none⟩) (fs.length + 1) cap2)) := by
  have hne : v.ownBlock ≠ some p := own_blk_ne hf.1 hbk (by decide)
  have hb2 := keepP hbk hgrow2 hne
  have hbut : But w (w2.setCell ⟨p, 0, none⟩ (.slice (some ⟨g2, 0, none⟩) (fs.length + 1) cap2)) p v.ownBlock := ((((But.refl w p v.ownBlock).alloc O1).alloc O2).drew.grown hgrow2).setP (.inl rfl) _
  refine ⟨rfl, _, hb2.set_ 0 _, fod_snoc hf hbut ⟨_, hbk⟩ he (ownsRow_setCell_other hown2 (own_blk_ne hown2 hb2 (by decide)) _), hbut, ?_⟩
  rcases hat2 with h | rfl
  · exact .inl h.symm
  · refine .inr fun g hg => ?_
    have : g2 = g := by simpa [Value.ownBlock] using hg
    omega

theorem app_close3 {w w2 : World} {O1 O2 O3 : Obj} {base p : Nat} {v : Value} {fs : List CE} {e : CE} {g2 cap2 H : Nat} (hf : Fod w base v fs) (hbk : Blk w p 58 #[v])
    (he : w.ownsRow base 9 1 (.slice e.A e.n e.c) e.n (e.cs.map Value.string)) (hH : w.heap.size ≤ H)
    (hown2 : w2.ownsRow base 74 4 (.slice (some ⟨g2, 0, none⟩) (fs.length + 1) cap2) (fs.length + 1) (fs.flatMap cellsF ++ cellsF e))
    (hgrow2 : ((((w.alloc O1).alloc O2).alloc O3).drew).grownBy w2 v.ownBlock) (hat2 : v.ownBlock = some g2 ∨ g2 = H) :
    AppPost w base p v (fs ++ [e]) (.returned (.tuple #[])) (w2.setCell ⟨p, 0, none⟩ (.slice (some ⟨g2, 0, none⟩) (fs.length + 1) cap2)) := by
  have hne : v.ownBlock ≠ some p := own_blk_ne hf.1 hbk (by decide)
  have hb2 := keepP3 hbk hgrow2 hne
  have hbut : But w (w2.setCell ⟨p, 0, none⟩ (.slice (some ⟨g2, 0, none⟩) (fs.length + 1) cap2)) p v.ownBlock := (((((But.refl w p v.ownBlock).alloc O1).alloc O2).alloc O3).drew.grown hgrow2).setP (.inl rfl) _
  refine ⟨rfl, _, hb2.set_ 0 _, fod_snoc hf hbut ⟨_, hbk⟩ he (ownsRow_setCell_other hown2 (own_blk_ne hown2 hb2 (by decide)) _), hbut, ?_⟩
  rcases hat2 with h | rfl
  · exact .inl h.symm
  · refine .inr fun g hg => ?_
    have : g2 = g := by simpa [Value.ownBlock] using hg
    omega

set_option maxRecDepth 100000 in
set_option maxHeartbeats 1600000 in
theorem append_plain (p : Nat) (base : Nat) (v : Value) (A : Option Addr) (n c : Nat) (hv : v = .slice A n c) (fs : List CE) (e : CE) (w : World) (hbk : Blk w p 58 #[v]) (hf : Fod w base v fs)
    (he : w.ownsRow base 9 1 (.slice e.A e.n e.c) e.n (e.cs.map Value.string)) (hbase : base ≤ w.heap.size) (hn : n ≤ 2147483647) (C : Bool) (hC : cleanB fs = C)
    (hcase : (C = true ∧ (e.k == 0) = false) ∨ (C = false ∧ (e.k == 2) = false)) :
    Calls Try.prog 53 #[.pointer (some ⟨p, 0, none⟩), .agg #[.slice e.A e.n e.c, .int .i64 e.k, .int .i64 e.b, .int .i64 e.i]] w (AppPost w base p v (fs ++ [e])) := by
  subst hv
  have hn' : n = fs.length := Fod.n_eq hf
  have hR : FodR (w.alloc (.cells #[.slice e.A e.n e.c, .int .i64 e.k, .int .i64 e.b, .int .i64 e.i] 74)) (w.heap.size + 1) A n fs := (Fod.reads hf).alloc
  have HF := Lib.hid hf
  have HK := Lib.hid hbk
  have HE := Lib.hid he
  have HR := Lib.hid hR
  have HC := Lib.hid hC
  have HN := Lib.hid hn'
  have hfl : fs.length ≤ 2147483647 := by omega
  have HNE := Lib.hid (own_blk_ne hf.1 hbk (by decide))
  have p0 : w.cell? ⟨p, 0, none⟩ = some (.slice A n c) := hbk.cell 0
  have hlp : p < w.heap.size := hbk.lt
  clear hf hbk he hR hC hn'
  obtain ⟨i74, hi74, hz74, hs74, hb74⟩ := info_parts info_fod
  rcases hcase with ⟨rfl, h0⟩ | ⟨rfl, h0⟩
  · go_enter Try.func53, Try.ntmps53
    go_wp2_with (go_at_call 67; refine (HC.out ▸ clean_any A n c fs (w.heap.size + 1) _ HR.out (by unfold maxLen; omega)).mono ?_; rintro e1 w1 ⟨rfl, rfl⟩)
    go_region_law ((refine step_append_x _ (by rfl) _ _ 58 (by rfl) base 74 i74 _ 4 48 Try.underlying58 hi74 hz74 hs74 hb74 rfl (by omega) (.slice A n c) fs.length (fs.flatMap cellsF) (by rfl) ((((HF.out.1).alloc _).alloc _).drew) (w.heap.size + 2) (some ⟨w.heap.size + 1, 0, none⟩) 1 1 (cellsF e) (by rfl) (Reads.ofBlock (cs := #[.slice e.A e.n e.c, .int .i64 e.k, .int .i64 e.b, .int .i64 e.i]) (heap_new2 w _ _) rfl (by omega)) (by simp [cellsF, Value.oneCell']) (.inr (by omega)) (by unfold maxLen; omega) (by omega) (by simp; omega) (w.heap.size + 2) (by simp) ?_; intro g2 cap2 w2 hown2 hgrow2 hat2 hlt2; have q0 : w2.cell? ⟨p, 0, none⟩ = some (.slice A n c) := (keepP HK.out hgrow2 HNE.out).cell 0; have qf : w2.frozen? ⟨p, 0, none⟩ = false := (keepP HK.out hgrow2 HNE.out).frozen 0))
    all_goals
      go_end0
      exact app_close HF.out HK.out HE.out (by omega) hown2 hgrow2 hat2
  · go_enter Try.func53, Try.ntmps53
    go_wp2_with (go_at_call 67; refine (HC.out ▸ clean_any A n c fs (w.heap.size + 1) _ HR.out (by unfold maxLen; omega)).mono ?_; rintro e1 w1 ⟨rfl, rfl⟩)
    go_region_law ((refine step_append_x _ (by rfl) _ _ 58 (by rfl) base 74 i74 _ 4 48 Try.underlying58 hi74 hz74 hs74 hb74 rfl (by omega) (.slice A n c) fs.length (fs.flatMap cellsF) (by rfl) ((((HF.out.1).alloc _).alloc _).drew) (w.heap.size + 2) (some ⟨w.heap.size + 1, 0, none⟩) 1 1 (cellsF e) (by rfl) (Reads.ofBlock (cs := #[.slice e.A e.n e.c, .int .i64 e.k, .int .i64 e.b, .int .i64 e.i]) (heap_new2 w _ _) rfl (by omega)) (by simp [cellsF, Value.oneCell']) (.inr (by omega)) (by unfold maxLen; omega) (by omega) (by simp; omega) (w.heap.size + 2) (by simp) ?_; intro g2 cap2 w2 hown2 hgrow2 hat2 hlt2; have q0 : w2.cell? ⟨p, 0, none⟩ = some (.slice A n c) := (keepP HK.out hgrow2 HNE.out).cell 0; have qf : w2.frozen? ⟨p, 0, none⟩ = false := (keepP HK.out hgrow2 HNE.out).frozen 0))
    all_goals
      go_end0
      exact app_close HF.out HK.out HE.out (by omega) hown2 hgrow2 hat2

end Go.Proofs.Ythinfliplpjdjaa
