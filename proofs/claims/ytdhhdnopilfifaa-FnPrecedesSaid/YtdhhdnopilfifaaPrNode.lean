/-
  The builder: node; all nodes.
-/
import Derived.Test.YtdhhdnopilfifaaPrMade
namespace Go.Proofs.Ytdhhdnopilfifaa
open Go.RowKit

theorem Cx.Go.setPl {X : Cx} {a b : World} (h : X.Go a b) (k : Nat) (v : Value) : X.Go a (b.setCell ⟨X.pl, k, none⟩ v) := by
  refine h.trans ⟨grownBy_set2 b ⟨X.pl, k, none⟩ v, ?_⟩
  obtain ⟨h1, h2, h3, h4, cs, h5, h6⟩ := h.2
  have hb : Below X.B b (b.setCell ⟨X.pl, k, none⟩ v) := (Below.refl X.B b).setCell (p := ⟨X.pl, k, none⟩) h3 v
  have hne : X.bB ≠ X.pl := h4.ne_ h5 (by decide)
  exact ⟨h1.below hb (Nat.le_refl _), Nat.le_trans h2 hb.size, h3, h4.far (p := ⟨X.pl, k, none⟩) hne v, _, h5.set_ k v, by simpa using h6⟩
theorem cell_far {w : World} {g i p k : Nat} {v u : Value} (h : w.cell? ⟨g, i, none⟩ = some u) (hne : p ≠ g) : (w.setCell ⟨p, k, none⟩ v).cell? ⟨g, i, none⟩ = some u := by
  rw [World.cell?_setCell_other _ _ _ _ (by simp)]
  exact h
set_option maxRecDepth 100000 in
set_option maxHeartbeats 3200000 in
theorem node_any (X : Cx) (hok : X.OK) (w : World) (h : X.Inv w) (k : Nat) (hN : NodeA X (k + 1)) (e : ND) (hek : X.es[k]? = some e) (h1 : 1 ≤ e.kind) (h2 : e.kind ≤ 30) :
    Calls Try.prog 22 #[.pointer (some ⟨X.bB, 0, none⟩), .int .i64 k] w (NdPost X e w) := by
  have hkn : k < X.n := by
    have := (List.getElem?_eq_some_iff.1 hek).1
    rw [hok.2.2] at this
    exact this
  have KM := Lib.hid (made_any X hok w.drew h.drew k hN e hek h1 h2)
  have HG := Lib.hid (h.go (Below.refl _ _))
  have d3 := h.drew.2.2.2.1.cell 3
  simp only [Cx.cells, List.getElem?_toArray, List.getElem?_cons_zero, List.getElem?_cons_succ] at d3
  obtain ⟨ty, hty⟩ : ∃ ty, tyOf e.kind = ty := ⟨_, rfl⟩
  have HTY := Lib.hid hty
  have hz0 : (0 : Int) ≤ (k : Int) := by omega
  have hz1 : (k : Int) < (X.n : Int) := by omega
  clear hok h hN hek h1 h2 hty
  go_enter Try.func22, Try.ntmps22
  go_upto_region 1 with fail
  go_region_law (go_simp; go_at_call 32; refine KM.out.mono ?_; rintro e9 w9 ⟨⟨g9, rfl, h23⟩, hgo9⟩; rw [HTY.out]; have H23 := Lib.hid h23; have HG9 := Lib.hid (HG.out.drew.trans hgo9); obtain ⟨hn9, hB9, hlp9, hbk9, cs9, hpl9, hsz9⟩ := hgo9.2; have p3 := hbk9.cell 3; have hlk : k < cs9.size := (by omega); have pk := hpl9.cell k; rw [Array.getElem?_eq_getElem hlk] at pk; have fk := hpl9.frozen k; have q3 := (HG9.out.setPl k (.iface ty (.pointer (some ⟨g9, 0, none⟩)))).2.2.2.2.1.cell 3; simp only [Cx.cells, List.getElem?_toArray, List.getElem?_cons_zero, List.getElem?_cons_succ] at p3 q3; clear hgo9 hn9 hB9 hlp9 hbk9 hpl9 h23)
  all_goals
    go_wp2_with fail
    go_ret
    exact ⟨⟨g9, by rw [HTY.out]; rfl, fun h => ⟨(H23.out h).1, cell_far (H23.out h).2 (H23.out h).1⟩⟩, HG9.out.setPl k _⟩
/-- Every expression is made as its kind says. -/
theorem nodes_all (X : Cx) (hok : X.OK) : ∀ (f k : Nat), X.n - k ≤ f → NodeA X k
  | 0, k, hf => fun j hj he => by
    obtain ⟨x, hx, -⟩ := he
    have := (List.getElem?_eq_some_iff.1 hx).1
    rw [hok.2.2] at this
    omega
  | f + 1, k, hf => fun j hj he => by
    obtain ⟨x, hx, h1, h2⟩ := he
    exact ⟨x, hx, fun w hi => node_any X hok w hi j (nodes_all X hok f (j + 1) (by omega)) x hx h1 h2⟩
end Go.Proofs.Ytdhhdnopilfifaa
