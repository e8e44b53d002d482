/-
  ast.FodderConcat on two pieces of fodder that the call owns, in rows of their own.
-/
import Derived.Test.YthinfliplpjdjaaConcatPar
import Derived.Test.YthinfliplpjdjaaConcatMerge
namespace Go.Proofs.Ythinfliplpjdjaa
open Go.RowKit

/-- An element behind fodder. -/
def appendC (fs : List CE) (e : CE) : List CE :=
  if cleanB fs = true ∧ e.k = 0 then
    if 0 < e.n then fs ++ [{ e with k := 2 }] else match fs[fs.length - 1]? with | some l => fs.set (fs.length - 1) (merged l e) | none => fs
  else fs ++ [e]

def Tame (fs : List CE) : Prop := ∀ e ∈ fs, 0 ≤ e.b ∧ e.b ≤ 1000000 ∧ e.n ≤ 2147483647

theorem append_any (p base : Nat) (v : Value) (A : Option Addr) (n c : Nat) (hv : v = .slice A n c) (fs : List CE) (e : CE) (w : World) (hbk : Blk w p 58 #[v]) (hf : Fod w base v fs)
    (he : w.ownsRow base 9 1 (.slice e.A e.n e.c) e.n (e.cs.map Value.string)) (hbase : base ≤ w.heap.size) (hn : n ≤ 2147483647) (hd : cleanB fs = false → e.k ≠ 2)
    (ht : Tame fs) (hte : 0 ≤ e.b ∧ e.b ≤ 1000000 ∧ e.n ≤ 2147483647) :
    Calls Try.prog 53 #[.pointer (some ⟨p, 0, none⟩), .agg #[.slice e.A e.n e.c, .int .i64 e.k, .int .i64 e.b, .int .i64 e.i]] w (AppPost w base p v (appendC fs e)) := by
  cases hC : cleanB fs
  · have : appendC fs e = fs ++ [e] := by simp [appendC, hC]
    rw [this]
    exact append_plain p base v A n c hv fs e w hbk hf he hbase hn false hC (.inr ⟨rfl, by simpa using hd hC⟩)
  · by_cases hk : e.k = 0
    · by_cases hp : 0 < e.n
      · have : appendC fs e = fs ++ [{ e with k := 2 }] := by simp [appendC, hC, hk, hp]
        rw [this]
        exact append_par p base v A n c hv fs e w hbk hf he hbase hn hC hk hp hte.2.2
      · subst hv
        have hnl := Fod.n_eq hf
        obtain ⟨l, hl⟩ : ∃ l, fs[fs.length - 1]? = some l := by
          unfold cleanB at hC
          split at hC
          · exact ⟨_, by assumption⟩
          · cases hC
        have hlk : (l.k != 1) = true := by
          unfold cleanB at hC
          rw [hl] at hC
          exact hC
        have hpos := (List.getElem?_eq_some_iff.1 hl).1
        have : appendC fs e = fs.set (fs.length - 1) (merged l e) := by simp [appendC, hC, hk, hp, hl]
        rw [this]
        obtain ⟨m, hm⟩ : ∃ m, fs.length = m + 1 := ⟨fs.length - 1, by omega⟩
        obtain ⟨g, cap, hvv, _, _⟩ := hf.1.form (by omega)
        have hA : A = some ⟨g, 0, none⟩ := by injection hvv
        obtain rfl : n = m + 1 := by omega
        subst hA
        rw [hm, Nat.add_sub_cancel] at hl ⊢
        have hlt := ht l (List.mem_of_getElem? hl)
        exact append_merge p base g m c fs l e w hbk hf hl hn hlk hk (by omega) hlt.1 hlt.2.1 hte.1 hte.2.1
    · have : appendC fs e = fs ++ [e] := by simp [appendC, hk]
      rw [this]
      exact append_plain p base v A n c hv fs e w hbk hf he hbase hn true hC (.inl ⟨rfl, by simpa using hk⟩)

/-- Two pieces of fodder as one. -/
def concatC (fa fb : List CE) : List CE := if fa = [] then fb else match fb with | [] => fa | b0 :: rb => appendC fa b0 ++ rb

def ConcatPost (w : World) (base : Nat) (row : Option Nat) (gs : List CE) (e : Ending) (w' : World) : Prop :=
  ∃ A n c, e = .returned (.slice A n c) ∧ FodR w' w'.heap.size A n gs ∧ Below base w w' ∧ w.grownBy w' row

theorem concat_nil (A1 A2 : Option Addr) (n1 c1 n2 c2 : Nat) (fa fb : List CE) (base : Nat) (w : World) (h1 : Fod w base (.slice A1 n1 c1) fa) (h2 : Fod w base (.slice A2 n2 c2) fb) (hz : fa = [] ∨ (fa ≠ [] ∧ fb = [])) :
    Calls Try.prog 40 #[.slice A1 n1 c1, .slice A2 n2 c2] w (ConcatPost w base (Value.slice A1 n1 c1).ownBlock (concatC fa fb)) := by
  have e1 := h1.n_eq
  have e2 := h2.n_eq
  rcases hz with rfl | ⟨hne, rfl⟩
  · obtain rfl : n1 = 0 := by simpa using e1
    have H2 := Lib.hid h2
    clear h1 h2 e1 e2
    go_enter Try.func40, Try.ntmps40
    go_wp2
    go_ret
    exact ⟨A2, n2, c2, rfl, H2.out.reads, Below.refl _ _, World.grownBy.refl _ _⟩
  · obtain rfl : n2 = 0 := by simpa using e2
    have hp : 0 < n1 := by have := List.length_pos_iff.2 hne; omega
    have h0 : ((n1 : Int) == 0) = false := by simp; omega
    have hcc := Lib.hid (show concatC fa [] = fa by simp [concatC, hne])
    have H1 := Lib.hid h1
    clear h1 h2 e1 e2 hne hp
    go_enter Try.func40, Try.ntmps40
    go_wp2
    go_ret
    rw [hcc.out]
    exact ⟨A1, n1, c1, rfl, H1.out.reads, Below.refl _ _, World.grownBy.refl _ _⟩

/-- A round of the loop: one element more. -/
theorem snoc_close {w w2 : World} {O2 : Obj} {base p : Nat} {v : Value} {fs : List CE} {e : CE} {g2 cap2 : Nat} (hf : Fod w base v fs) (hbk : Blk w p 58 #[v])
    (he : w.ownsRow base 9 1 (.slice e.A e.n e.c) e.n (e.cs.map Value.string))
    (hown2 : w2.ownsRow base 74 4 (.slice (some ⟨g2, 0, none⟩) (fs.length + 1) cap2) (fs.length + 1) (fs.flatMap cellsF ++ cellsF e))
    (hgrow2 : ((w.alloc O2).drew).grownBy w2 v.ownBlock) (hat2 : v.ownBlock = some g2 ∨ g2 = w.heap.size + 1) :
    Blk (w2.setCell ⟨p, 0, none⟩ (.slice (some ⟨g2, 0, none⟩) (fs.length + 1) cap2)) p 58 #[.slice (some ⟨g2, 0, none⟩) (fs.length + 1) cap2] ∧
    Fod (w2.setCell ⟨p, 0, none⟩ (.slice (some ⟨g2, 0, none⟩) (fs.length + 1) cap2)) base (.slice (some ⟨g2, 0, none⟩) (fs.length + 1) cap2) (fs ++ [e]) ∧
    But w (w2.setCell ⟨p, 0, none⟩ (.slice (some ⟨g2, 0, none⟩) (fs.length + 1) cap2)) p v.ownBlock ∧
    ((Value.slice (some ⟨g2, 0, none⟩) (fs.length + 1) cap2).ownBlock = v.ownBlock ∨ ∀ g, (Value.slice (some ⟨g2, 0, none⟩) (fs.length + 1) cap2).ownBlock = some g → w.heap.size ≤ g) := by
  have hne : v.ownBlock ≠ some p := own_blk_ne hf.1 hbk (by decide)
  have hb2 : Blk w2 p 58 #[v] := ((hbk.alloc _).drew).grown hgrow2 (Ne.symm hne)
  have hbut : But w (w2.setCell ⟨p, 0, none⟩ (.slice (some ⟨g2, 0, none⟩) (fs.length + 1) cap2)) p v.ownBlock := (((But.refl w p v.ownBlock).alloc O2).drew.grown hgrow2).setP (.inl rfl) _
  refine ⟨hb2.set_ 0 _, fod_snoc hf hbut ⟨_, hbk⟩ he (ownsRow_setCell_other hown2 (own_blk_ne hown2 hb2 (by decide)) _), hbut, ?_⟩
  rcases hat2 with h | rfl
  · exact .inl h.symm
  · refine .inr fun g hg => ?_
    have : w.heap.size + 1 = g := by simpa [Value.ownBlock] using hg
    omega

theorem Fod.alloc {w : World} {base : Nat} {v : Value} {fs : List CE} (h : Fod w base v fs) (o : Obj) : Fod (w.alloc o) base v fs := ⟨h.1.alloc o, fun x hx => (h.2 x hx).alloc o⟩
theorem own_slice {w : World} {base : Nat} {e : TypeId} {size : Nat} {v : Value} {n : Nat} {xs : List Value} (h : w.ownsRow base e size v n xs) : ∃ A m c, v = .slice A m c := by
  rcases h.2 with ⟨rfl, _⟩ | ⟨g, cap, cur, rfl, _⟩
  · exact ⟨_, _, _, rfl⟩
  · exact ⟨_, _, _, rfl⟩
theorem appendC_len (fs : List CE) (e : CE) : (appendC fs e).length ≤ fs.length + 1 := by
  unfold appendC
  split
  · split
    · simp
    · split <;> simp
  · simp

theorem take_one {l : List CE} {k : Nat} {x : CE} (h : l[k - 1]? = some x) (hk : 1 ≤ k) : l.take k = l.take (k - 1) ++ [x] := by
  obtain ⟨j, rfl⟩ : ∃ j, k = j + 1 := ⟨k - 1, by omega⟩
  rw [Nat.add_sub_cancel] at h ⊢
  rw [List.take_add_one, h]
  rfl

/-- What the loop keeps. -/
structure Loop (w wr : World) (base P : Nat) (v vb : Value) (gs fb : List CE) (row : Option Nat) : Prop where
  grow : w.grownBy wr row
  loc : v.ownBlock = row ∨ ∀ g, v.ownBlock = some g → w.heap.size ≤ g
  blk : Blk wr P 58 #[v]
  fod : Fod wr base v gs
  oth : Fod wr base vb fb
  sep : v.ownBlock = none ∨ v.ownBlock ≠ vb.ownBlock
  bel : Below base w wr
  siz : base ≤ wr.heap.size

theorem Loop.step {w wr w' : World} {base P : Nat} {v vb v' : Value} {gs gs' fb : List CE} {row : Option Nat} (h : Loop w wr base P v vb gs fb row) (hP : base ≤ P) (hPw : w.heap.size ≤ P) (hb : Blk w' P 58 #[v']) (hf : Fod w' base v' gs') (hbut : But wr w' P v.ownBlock)
    (hat : v'.ownBlock = v.ownBlock ∨ ∀ g, v'.ownBlock = some g → wr.heap.size ≤ g) : Loop w w' base P v' vb gs' fb row := by
  have hsep' : vb.ownBlock = none ∨ vb.ownBlock ≠ v.ownBlock := by
    rcases h.sep with hs | hs
    · cases hv : vb.ownBlock with
      | none => exact .inl rfl
      | some k => right; rw [hs]; simp
    · exact .inr (Ne.symm hs)
  have hgrow : w.grownBy w' row := ⟨hbut.os.trans h.grow.os, hbut.tape.trans h.grow.tape, hbut.output.trans h.grow.output, Nat.le_trans h.grow.size hbut.size, fun k hk hne =>
    (hbut.block k (Nat.lt_of_lt_of_le hk h.grow.size) (by omega) (fun e => by
      rcases h.loc with hl | hl
      · exact hne (e.trans hl)
      · have := hl k e.symm
        omega)).trans (h.grow.block k hk hne)⟩
  have hloc : v'.ownBlock = row ∨ ∀ g, v'.ownBlock = some g → w.heap.size ≤ g := by
    rcases hat with ha | ha
    · rw [ha]; exact h.loc
    · exact .inr fun g hg => Nat.le_trans h.grow.size (ha g hg)
  refine ⟨hgrow, hloc, hb, hf, ⟨hbut.own h.oth.1 (own_blk_ne h.oth.1 h.blk (by decide)) hsep', fun x hx => ?_⟩, ?_, h.bel.trans (hbut.below h.siz hP (fun k hk => (h.fod.1.lt k hk).1)), Nat.le_trans h.siz hbut.size⟩
  · exact hbut.own (h.oth.2 x hx) (own_blk_ne (h.oth.2 x hx) h.blk (by decide)) (own_own_ne (h.oth.2 x hx) h.fod.1 (by decide))
  · rcases hat with ha | ha
    · rw [ha]; exact h.sep
    · cases hv : v'.ownBlock with
      | none => exact .inl rfl
      | some k =>
        right
        intro hk
        have h1 := ha k hv
        have h2 := (h.oth.1.lt k hk.symm).2
        omega

set_option maxRecDepth 100000 in
set_option maxHeartbeats 3200000 in
theorem concat_both (A1 A2 : Option Addr) (n1 c1 n2 c2 : Nat) (fa : List CE) (b0 : CE) (rb : List CE) (base : Nat) (w : World) (h1 : Fod w base (.slice A1 n1 c1) fa) (h2 : Fod w base (.slice A2 n2 c2) (b0 :: rb)) (hne : fa ≠ [])
    (hsep : (Value.slice A1 n1 c1).ownBlock ≠ (Value.slice A2 n2 c2).ownBlock) (hbase : base ≤ w.heap.size) (hn1 : n1 ≤ 1000000) (hn2 : n2 ≤ 1000000) (hd : cleanB fa = false → b0.k ≠ 2) (t1 : Tame fa) (t2 : Tame (b0 :: rb)) :
    Calls Try.prog 40 #[.slice A1 n1 c1, .slice A2 n2 c2] w (ConcatPost w base (Value.slice A1 n1 c1).ownBlock (concatC fa (b0 :: rb))) := by
  have e1 := h1.n_eq
  have e2 := h2.n_eq
  have hp1 : 0 < n1 := by have := List.length_pos_iff.2 hne; omega
  have hp2 : 0 < n2 := by simp at e2; omega
  have q1 : ((n1 : Int) == 0) = false := by simp; omega
  have q2 : ((n2 : Int) == 0) = false := by simp; omega
  have i2 : (0 : Int) < (n2 : Int) := by omega
  have HC := Lib.hid (show concatC fa (b0 :: rb) = appendC fa b0 ++ rb by simp [concatC, hne])
  obtain ⟨g, cap, hvv, hg0, hg1⟩ := h2.1.form (by simp)
  have hA : A2 = some ⟨g, 0, none⟩ := by injection hvv
  subst hA
  obtain ⟨i74, hi74, hz74, hs74, hb74⟩ := info_parts info_fod
  have H1 := Lib.hid h1
  have H2 := Lib.hid h2
  have HE2 := Lib.hid e2
  have HS := Lib.hid hsep
  have HT1 := Lib.hid t1
  have HT2 := Lib.hid t2
  have h2r := h2.1
  rw [← e2] at h2r
  have z0 : w.cell? ⟨g, 0, none⟩ = some (.slice b0.A b0.n b0.c) := h2r.cellAt 0 (by omega)
  have z1 : w.cell? ⟨g, 1, none⟩ = some (.int .i64 b0.k) := h2r.cellAt 1 (by omega)
  have z2 : w.cell? ⟨g, 2, none⟩ = some (.int .i64 b0.b) := h2r.cellAt 2 (by omega)
  have z3 : w.cell? ⟨g, 3, none⟩ = some (.int .i64 b0.i) := h2r.cellAt 3 (by omega)
  clear h1 h2 e1 e2 hsep t1 t2 h2r hvv hne hp1
  go_enter Try.func40, Try.ntmps40
  go_wp2_with fail
  refine (append_any w.heap.size base (.slice A1 n1 c1) A1 n1 c1 rfl fa b0 _ (Blk.new w _ _) (Fod.alloc H1.out _) ((H2.out.2 b0 (by simp)).alloc _) (by simp; omega) (by omega) hd HT1.out (HT2.out b0 (by simp))).mono ?_
  rintro e1 w1 ⟨rfl, v1, hblk1, hfod1, hbut1, hat1⟩
  have hloop0 : Loop w (w.alloc (.cells #[.slice A1 n1 c1] 58)) base w.heap.size (.slice A1 n1 c1) (.slice (some ⟨g, 0, none⟩) n2 c2) fa (b0 :: rb) (Value.slice A1 n1 c1).ownBlock :=
    ⟨World.grownBy_alloc _ _ _, .inl rfl, Blk.new w _ _, Fod.alloc H1.out _, Fod.alloc H2.out _, .inr HS.out, (Below.refl _ _).alloc hbase _, by simp; omega⟩
  have hloop1 := hloop0.step hbase (Nat.le_refl _) hblk1 hfod1 hbut1 hat1
  have HL1 := Lib.hid hloop1
  clear hblk1 hfod1 hbut1 hat1 hloop0 hloop1 z0 z1 z2 z3
  go_wp2_with fail
  go_loopw [6] (fun i wr => ∃ k : Nat, 1 ≤ k ∧ k ≤ n2 ∧ i = .int .i64 k ∧ ∃ v, Loop w wr base w.heap.size v (.slice (some ⟨g, 0, none⟩) n2 c2) (appendC fa b0 ++ rb.take (k - 1)) (b0 :: rb) (Value.slice A1 n1 c1).ownBlock) (fun i _ => n2 - (intOf i).toNat)
  case atStart => exact ⟨1, Nat.le_refl _, by omega, rfl, v1, by simpa using HL1.out⟩
  case round =>
    obtain ⟨k, hk1, hk, rfl, v, hloop⟩ := hrel
    have HL := Lib.hid hloop
    obtain ⟨Av, nv, cv, hv⟩ := own_slice hloop.fod.1
    subst hv
    have HNv := Lib.hid (hloop.fod.n_eq)
    have p0 : wr.cell? ⟨w.heap.size, 0, none⟩ = some (.slice Av nv cv) := hloop.blk.cell 0
    have pl : w.heap.size < wr.heap.size := hloop.blk.lt
    have hbs := hloop.siz
    clear hloop
    by_cases hlt : k < n2
    · have hkl : k - 1 < rb.length := by have := HE2.out; simp at this; omega
      obtain ⟨x, hx⟩ : ∃ x, (b0 :: rb)[k]? = some x := ⟨_, List.getElem?_eq_getElem (by have := HE2.out; omega)⟩
      have hxr : rb[k - 1]? = some x := by
        obtain ⟨j, rfl⟩ : ∃ j, k = j + 1 := ⟨k - 1, by omega⟩
        simpa using hx
      have hor := HL.out.oth.1
      rw [← HE2.out] at hor
      have y0 : wr.cell? ⟨g, k * 4, none⟩ = some (.slice x.A x.n x.c) := by rw [hor.cellAt _ (by omega), show k * 4 = k * 4 + 0 from rfl, flatMap_get4 cellsF (fun _ => rfl) _ k 0 x hx (by omega)]; rfl
      have y1 : wr.cell? ⟨g, k * 4 + 1, none⟩ = some (.int .i64 x.k) := by rw [hor.cellAt _ (by omega), flatMap_get4 cellsF (fun _ => rfl) _ k 1 x hx (by omega)]; rfl
      have y2 : wr.cell? ⟨g, k * 4 + 2, none⟩ = some (.int .i64 x.b) := by rw [hor.cellAt _ (by omega), flatMap_get4 cellsF (fun _ => rfl) _ k 2 x hx (by omega)]; rfl
      have y3 : wr.cell? ⟨g, k * 4 + 3, none⟩ = some (.int .i64 x.i) := by rw [hor.cellAt _ (by omega), flatMap_get4 cellsF (fun _ => rfl) _ k 3 x hx (by omega)]; rfl
      have gl := (hor.lt g rfl).2
      have HX := Lib.hid hx
      have HXR := Lib.hid hxr
      have hlen : (appendC fa b0 ++ rb.take (k - 1)).length ≤ 3000000 := by
        have := appendC_len fa b0
        have h1 := H1.out.n_eq
        simp only [List.length_append, List.length_take]
        omega
      clear hx hxr hor
      have i0 : (0 : Int) ≤ (k : Int) := by omega
      have i1 : (k : Int) < (n2 : Int) := by omega
      go_wp2_with fail
      go_region_law ((refine step_append_x _ (by rfl) _ _ 58 (by rfl) base 74 i74 _ 4 48 Try.underlying58 hi74 hz74 hs74 hb74 rfl (by omega) (.slice Av nv cv) _ _ (by rfl) ((HL.out.fod.1.alloc _).drew) (wr.heap.size + 1) (some ⟨wr.heap.size, 0, none⟩) 1 1 (cellsF x) (by rfl) (Reads.ofBlock (cs := #[.slice x.A x.n x.c, .int .i64 x.k, .int .i64 x.b, .int .i64 x.i]) (heap_alloc_new wr _) rfl (by omega)) (by simp [cellsF, Value.oneCell']) (.inr (by omega)) (by unfold maxLen; omega) (by omega) (by simp; omega) (wr.heap.size + 1) (by simp) ?_; intro g2 cap2 w2 hown2 hgrow2 hat2 hlt2; have q0 : w2.cell? ⟨w.heap.size, 0, none⟩ = some (.slice Av nv cv) := (((HL.out.blk.alloc _).drew).grown hgrow2 (Ne.symm (own_blk_ne HL.out.fod.1 HL.out.blk (by decide)))).cell 0; have qf : w2.frozen? ⟨w.heap.size, 0, none⟩ = false := (((HL.out.blk.alloc _).drew).grown hgrow2 (Ne.symm (own_blk_ne HL.out.fod.1 HL.out.blk (by decide)))).frozen 0))
      all_goals
        go_wp2_with fail
        have R := snoc_close (e := x) HL.out.fod HL.out.blk (HL.out.oth.2 x (List.mem_of_getElem? HX.out)) hown2 hgrow2 hat2
        simp only [List.length_append, List.length_take] at R
        have R2 := HL.out.step hbase (Nat.le_refl _) R.1 R.2.1 R.2.2.1 R.2.2.2
        go_roundw
        case rel => exact ⟨k + 1, by omega, by omega, by go_num, _, by rw [Nat.add_sub_cancel, take_one HXR.out hk1, ← List.append_assoc]; exact R2⟩
        case measure => simp [intOf]; omega
    · obtain rfl : k = n2 := by omega
      have hlr : rb.length = k - 1 := by have := HE2.out; simp at this; omega
      go_wp2_with fail
      go_ret
      rw [HC.out]
      refine ⟨Av, nv, cv, rfl, ?_, HL.out.bel, HL.out.grow⟩
      have hr := HL.out.fod.reads
      rwa [List.take_of_length_le (by omega)] at hr
end Go.Proofs.Ythinfliplpjdjaa
