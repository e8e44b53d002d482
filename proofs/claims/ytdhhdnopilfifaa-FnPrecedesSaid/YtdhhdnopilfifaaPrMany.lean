/-
  The builder: what stands while only places turn; maybe, isSpec, many.
-/
import Derived.Test.YtdhhdnopilfifaaPrPrec
namespace Go.Proofs.Ytdhhdnopilfifaa
open Go.RowKit

theorem Cx.Inv.ne {X : Cx} {w : World} (h : X.Inv w) {g : Nat} {t : TypeId} {cs : Array Value} (hb : Blk w g t cs) (ht : t ≠ 32) : some g ≠ some X.pl := fun e => by
  injection e with e
  subst e
  obtain ⟨-, -, -, -, cs2, h5, -⟩ := h
  exact hb.ne_ h5 ht rfl
theorem Cx.Go.blk {X : Cx} {w w' : World} (h : X.Go w w') (hi : X.Inv w) {g : Nat} {t : TypeId} {cs : Array Value} (hb : Blk w g t cs) (ht : t ≠ 32) : Blk w' g t cs := hb.grown h.1 (hi.ne hb ht)
theorem Cx.Go.kids {X : Cx} {w w' : World} (h : X.Go w w') (hi : X.Inv w) {n c : Nat} {A : Option Addr} {l : List Nat} (hk : KidsOK w n A c l) : KidsOK w' n A c l := by
  obtain ⟨h1, h2⟩ := hk
  refine ⟨?_, h2⟩
  rcases h1 with h1 | ⟨g, off, cs, hA, hb, hc⟩
  · exact .inl h1
  · exact .inr ⟨g, off, cs, hA, h.blk hi (t := 3) hb (by decide), hc⟩
theorem Cx.Go.own {X : Cx} {w w' : World} (h : X.Go w w') (hi : X.Inv w) {base e size n : Nat} {v : Value} {xs : List Value} (ho : w.ownsRow base e size v n xs) (he : e ≠ 32) : w'.ownsRow base e size v n xs := by
  refine ho.kept h.1 ?_
  obtain ⟨-, -, -, -, cs2, h5, -⟩ := hi
  exact .inr (own_blk_ne ho h5 he)
/-- What node leaves: a node of its kind. -/
def NdPost (X : Cx) (x : ND) (w : World) (e : Ending) (w' : World) : Prop :=
  (∃ g, e = .returned (.iface (tyOf x.kind) (.pointer (some ⟨g, 0, none⟩))) ∧ (x.kind = 23 → X.pl ≠ g ∧ w'.cell? ⟨g, 12, none⟩ = some (.int .i64 (bopI x.op)))) ∧ X.Go w w'
def NodeC (X : Cx) (k : Nat) : Prop := ∃ x, X.es[k]? = some x ∧ ∀ w, X.Inv w → Calls Try.prog 22 #[.pointer (some ⟨X.bB, 0, none⟩), .int .i64 k] w (NdPost X x w)
/-- Some interface value. -/
def IfPost (X : Cx) (w : World) (e : Ending) (w' : World) : Prop := (∃ v : Value, e = .returned v ∧ (v = .nilIface ∨ ∃ t g, v = .iface t (.pointer (some ⟨g, 0, none⟩)))) ∧ X.Go w w'
theorem Cx.Inv.node {X : Cx} {w : World} (h : X.Inv w) {k : Nat} {x : ND} (hx : X.es[k]? = some x) : w.cell? ⟨X.b, X.o + k * 5, none⟩ = some (.int .i64 x.kind) ∧ k < X.n ∧ w.cell? ⟨X.bB, 0, none⟩ = some (.slice (some ⟨X.b, X.o, none⟩) X.n X.c) := by
  have hk : k < X.n := by have := (List.getElem?_eq_some_iff.1 hx).1; rw [h.1.1] at this; exact this
  obtain ⟨b, o, e, hA, -, hek, c0, -⟩ := h.1.at_ hk
  cases hA
  rw [hx] at hek
  cases hek
  exact ⟨c0, hk, h.2.2.2.1.cell 0⟩
theorem maybe_any (X : Cx) (k : Nat) (w : World) (h : X.Inv w) (_hn : X.n ≤ 400) (hk : NodeC X k ∨ Kd X.es [31] k) : Calls Try.prog 60 #[.pointer (some ⟨X.bB, 0, none⟩), .int .i64 k] w (IfPost X w) := by
  obtain ⟨x, hx, hc⟩ : ∃ x, X.es[k]? = some x ∧ (x.kind = 31 ∨ NodeC X k) := by
    rcases hk with ⟨x, hx, hN⟩ | ⟨x, hx, hm⟩
    · exact ⟨x, hx, .inr ⟨x, hx, hN⟩⟩
    · exact ⟨x, hx, .inl (by simpa using hm)⟩
  obtain ⟨c0, hkn, b0⟩ := h.node hx
  have H := Lib.hid h
  have HC := Lib.hid hc
  clear h hk
  cases q : (x.kind == 31)
  · have hN : NodeC X k := by
      rcases hc with h | h
      · rw [h] at q; cases q
      · exact h
    obtain ⟨x2, hx2, K⟩ := hN
    have KK := Lib.hid (K w H.out)
    clear hc hx hx2 K
    generalize x.kind = kd at *
    go_enter Try.func60, Try.ntmps60
    go_wp2_with fail
    refine KK.out.mono ?_
    rintro e1 w1 ⟨⟨g, rfl, -⟩, hgo⟩
    have HG := Lib.hid hgo
    clear hgo
    generalize tyOf x2.kind = ty at *
    go_wp2_with fail
    go_ret
    exact ⟨⟨_, rfl, .inr ⟨_, _, rfl⟩⟩, HG.out⟩
  · clear hc hx
    generalize x.kind = kd at *
    go_enter Try.func60, Try.ntmps60
    go_wp2_with fail
    go_ret
    exact ⟨⟨_, rfl, .inl rfl⟩, H.out.go (Below.refl _ _)⟩
theorem isSpec_any (X : Cx) (k : Nat) (x : ND) (w : World) (h : X.Inv w) (_hn : X.n ≤ 400) (hx : X.es[k]? = some x) : Calls Try.prog 67 #[.pointer (some ⟨X.bB, 0, none⟩), .int .i64 k] w (fun e w' => e = .returned (.bool (x.kind == 38 || x.kind == 39)) ∧ w = w') := by
  obtain ⟨c0, hkn, b0⟩ := h.node hx
  clear h hx
  cases q1 : (x.kind == 38) <;> cases q2 : (x.kind == 39)
  all_goals
    generalize x.kind = kd at *
    go_enter Try.func67, Try.ntmps67
    go_wp2_with fail
    go_ret
    exact ⟨rfl, rfl⟩
theorem info_cse : (Try.prog.info? 193).map (fun i => (i.zero, i.size, i.bytes)) = some (some (.agg #[.nilIface, .slice none 0 0]), 2, 40) := by kernel_rfl
/-- A slice of something. -/
def SlPost (X : Cx) (w : World) (e : Ending) (w' : World) : Prop := (∃ A n c, e = .returned (.slice A n c)) ∧ X.Go w w'
theorem own_form2 {w : World} {base e size n : Nat} {v : Value} {xs : List Value} (h : w.ownsRow base e size v n xs) : ∃ A c, v = .slice A n c := by
  rcases h.2 with ⟨rfl, h0⟩ | ⟨g, cap, cur, rfl, _⟩
  · exact ⟨none, 0, by rw [h0]⟩
  · exact ⟨_, cap, rfl⟩
/-- The row so far. -/
def RwI (X : Cx) (w wr : World) (t : TypeId) (size : Nat) (u : Value) (j : Nat) : Prop := (∃ xs, wr.ownsRow w.heap.size t size u j xs) ∧ X.Go w wr
/-- Behind an append to a row of this call's own. -/
theorem rwI_step {X : Cx} {w wr w2 : World} {t : TypeId} {size j g cap : Nat} {u : Value} {xs ys : List Value} {ob : Obj} (hgo : X.Go w wr) (hrow : wr.ownsRow w.heap.size t size u j xs)
    (hown : w2.ownsRow w.heap.size t size (.slice (some ⟨g, 0, none⟩) (j + 1) cap) (j + 1) ys) (hg : (wr.alloc ob).grownBy w2 u.ownBlock) (hpl : X.pl < w.heap.size) (hbB : X.bB < w.heap.size) (hBB : X.B ≤ w.heap.size) :
    RwI X w w2 t size (.slice (some ⟨g, 0, none⟩) (j + 1) cap) (j + 1) := by
  refine ⟨⟨ys, hown⟩, ?_⟩
  have h7 : (wr.alloc ob).heap.size = wr.heap.size + 1 := by simp
  have hz : w.heap.size ≤ wr.heap.size := hgo.1.size
  have hb : Below w.heap.size wr w2 := ((Below.refl w.heap.size wr).alloc hz ob).grown hg (by omega) (fun k hk => (hrow.lt k hk).1)
  have hzz : wr.heap.size ≤ w2.heap.size := hb.size
  obtain ⟨g1, g2, g3, g4, g5⟩ := hgo.1
  obtain ⟨i1, i2, i3, i4, cs, i5, i6⟩ := hgo.2
  refine ⟨⟨hb.os.trans g1, hb.tape.trans g2, hb.output.trans g3, Nat.le_trans g4 hzz, fun k hk hne => (hb.block k hk).trans (g5 k hk hne)⟩, ⟨i1.below hb hBB, Nat.le_trans i2 hzz, i3, i4.below hb hbB, cs, i5.below hb hpl, i6⟩⟩
theorem Cx.Inv.lts {X : Cx} {w : World} (h : X.Inv w) : X.pl < w.heap.size ∧ X.bB < w.heap.size ∧ X.B ≤ w.heap.size := by
  obtain ⟨i1, i2, i3, i4, cs, i5, i6⟩ := h
  exact ⟨i5.lt, i4.lt, i2⟩
set_option maxRecDepth 100000 in
set_option maxHeartbeats 1600000 in
theorem many_any (X : Cx) (w : World) (h : X.Inv w) (A2 : Option Addr) (c2 : Nat) (l : List Nat) (hk : KidsOK w X.n A2 c2 l) (hN : ∀ k ∈ l, NodeC X k) :
    Calls Try.prog 51 #[.pointer (some ⟨X.bB, 0, none⟩), .slice A2 l.length c2] w (SlPost X w) := by
  obtain ⟨hl1, hl2, hl3⟩ := h.lts
  have H := Lib.hid h
  have HK := Lib.hid hk
  have HN := Lib.hid hN
  have hll := hk.2.2.1
  obtain ⟨i0, hi, hz, hsz, hbb⟩ := info_parts info_cse
  clear h hk hN
  go_enter Try.func51, Try.ntmps51
  go_wp2_with fail
  go_loopw [5, 7, 10] (fun u _ t wr => ∃ j : Nat, j ≤ l.length ∧ t = .int .i64 j ∧ Hid (RwI X w wr 193 2 u j)) (fun _ _ t _ => l.length - (intOf t).toNat)
  case atStart => exact ⟨0, Nat.zero_le _, rfl, Lib.hid ⟨⟨[], World.ownsRow_nil _ _ _ _⟩, H.out.go (Below.refl _ _)⟩⟩
  case round =>
    obtain ⟨j, hj, rfl, HI⟩ := hrel
    obtain ⟨⟨xs, hrow⟩, hgo⟩ := HI.out
    have HR := Lib.hid hrow
    have HG := Lib.hid hgo
    have hzw : w.heap.size ≤ wr.heap.size := hgo.1.size
    clear hrow hgo
    by_cases hlt : j < l.length
    · have hg := List.getElem?_eq_getElem hlt
      have hm := List.getElem_mem hlt
      generalize l[j] = k at *
      obtain ⟨x, hx, K⟩ := HN.out k hm
      obtain ⟨g, off, rfl, hgl, hc, -⟩ := (HG.out.kids H.out HK.out).cell hg
      have KK := Lib.hid (K wr HG.out.2)
      clear hg hm K hx
      generalize tyOf x.kind = ty at *
      go_wp2_with fail
      refine KK.out.mono ?_
      rintro e1 w1 ⟨⟨g1, rfl, -⟩, hgo1⟩
      have HR1 := Lib.hid (hgo1.own HG.out.2 HR.out (by decide))
      have HG1 := Lib.hid (HG.out.trans hgo1)
      have hzw1 : w.heap.size ≤ w1.heap.size := HG1.out.1.size
      clear hgo1
      generalize tyOf x.kind = ty at *
      go_wp2_with (at_builtin; refine wpList_append_x _ rfl (.tmp 14) (.tmp 19) 126 rfl w.heap.size 193 i0 _ 2 40 Try.underlying126 hi hz hsz hbb rfl (by omega) u5 j _ rfl (HR1.out.alloc _) (w1.heap.size + 1) (some ⟨w1.heap.size, 0, none⟩) 1 1 [.iface ty (.pointer (some ⟨g1, 0, none⟩)), .slice none 0 0] rfl (Reads.ofBlock (cs := #[.iface ty (.pointer (some ⟨g1, 0, none⟩)), .slice none 0 0]) (heap_alloc_new _ _) rfl (by omega)) (by simp [Value.oneCell']) (.inr (by omega)) (by unfold maxLen; omega) (by omega) (by simp; omega) (w1.heap.size + 1) (by simp) ?_; intro g2 cap2 w3 hown2 hgrow2 hat2 hlt2)
      have HX := Lib.hid (rwI_step HG1.out HR1.out hown2 hgrow2 hl1 hl2 hl3)
      clear hown2 hgrow2 hat2
      go_roundw
      case rel => exact ⟨j + 1, by omega, by go_num, HX⟩
      case measure => simp [intOf]; omega
    · obtain rfl : j = l.length := by omega
      obtain ⟨A5, c5, rfl⟩ := own_form2 HR.out
      go_wp2_with fail
      go_ret
      exact ⟨⟨_, _, _, rfl⟩, HG.out⟩
end Go.Proofs.Ytdhhdnopilfifaa
