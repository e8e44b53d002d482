/-
  Precedence: what it answers for a right tree.
-/
import Derived.Test.YtdhhdnopilfifaaPrRank
namespace Go.Proofs.Ytdhhdnopilfifaa
open Go.RowKit

/-- What Precedence answers: a number by the root's kind and operator. -/
def PcPost (es : List ND) (w : World) (r : Ending) (w' : World) : Prop :=
  (∃ e0, es[0]? = some e0 ∧ 1 ≤ e0.kind ∧ e0.kind ≤ 30 ∧ (e0.kind = 23 → 1 ≤ e0.op ∧ e0.op ≤ 19) ∧ r = .returned (.int .i64 (precK e0.kind e0.op))) ∧ Below w.heap.size w w'
set_option maxRecDepth 100000 in
set_option maxHeartbeats 3200000 in
theorem preced_any (A : Option Addr) (n c : Nat) (es : List ND) (B : Nat) (w : World) (h : Nodes w B A n es) (hB : B ≤ w.heap.size) (hn : n ≤ 400) (hnc : n ≤ c) (hr : RightP es) :
    Calls Try.prog 7 #[.slice A n c, .int .i64 0] w (PcPost es w) := by
  obtain ⟨kl, e0, hrt, he0, hs0, h1, h2⟩ := hr
  have hlen := h.1
  rw [hlen] at hs0
  have hp : 0 < n := by have := (List.getElem?_eq_some_iff.1 he0).1; omega
  have hbare := (hrt.2 0 e0 he0).1
  obtain ⟨b, o, e, rfl, hbb, hek, c0, c1, c2, c3, c4⟩ := h.at_ hp
  rw [he0] at hek
  cases hek
  rw [hs0] at c4
  simp only [Nat.zero_mul, Nat.add_zero] at c0 c4
  have KB := Lib.hid (build_any b o n c es kl B w h hB hn hrt e0 he0 hs0 h1 h2)
  have HE := Lib.hid he0
  have H1 := Lib.hid h1
  have H2 := Lib.hid h2
  have HO := Lib.hid (hbare.2.2.1)
  have hn1 : (1 : Int) ≤ (n : Int) := by omega
  have hn0 : (0 : Int) < (n : Int) := by omega
  have hnc1 : (n : Int) ≤ (c : Int) := by omega
  have hc0 : ¬ c = 0 := by omega
  have wr1 : IntKind.i64.wrap (n : Int) = (n : Int) := IntWalk.i64_in _ (by omega)
  clear h hrt he0 hs0 hbare hlen h1 h2 c1 c2 c3
  go_enter Try.func7, Try.ntmps7
  go_wp2_with fail
  refine KB.out.mono ?_
  rintro e1 w1 ⟨⟨g, rfl, h23⟩, hw1⟩
  have HB1 := Lib.hid hw1
  have KP := Lib.hid (prec_of e0.kind e0.op H1.out H2.out HO.out g w1 h23)
  generalize tyOf e0.kind = ty at *
  clear hw1 h23
  go_wp2_with fail
  refine KP.out.mono ?_
  rintro e2 w2 ⟨rfl, rfl⟩
  obtain ⟨v, hv⟩ : ∃ v, precK e0.kind e0.op = v := ⟨_, rfl⟩
  have HV := Lib.hid hv
  rw [hv]
  clear hv
  go_wp2_with fail
  go_ret
  exact ⟨⟨e0, HE.out, H1.out, H2.out, HO.out, by rw [HV.out]; rfl⟩, HB1.out⟩
end Go.Proofs.Ytdhhdnopilfifaa
