/-
  MadeBy: the names of the fields that steps make, none of which takes one out.
-/
import Derived.Test.YtkbjcpeogecbgaaDoorFsMade
import Derived.Deep.RegionLaw
import Derived.Deep.RegionHeld3
namespace Go.Proofs.YtkbjcpeogecbgaaDoor
open Go.RowKit

/-- A name that the first i steps have, or one of the first j of step i. -/
def NM (es : List FE) (i j : Nat) (s : ByteArray) : Prop := (∃ i' e, i' < i ∧ es[i']? = some e ∧ s ∈ e.ns) ∨ ∃ e, es[i]? = some e ∧ s ∈ e.ns.take j
theorem nm_start (es : List FE) (s : ByteArray) : ¬ NM es 0 0 s := by
  rintro (⟨i, e, h, _⟩ | ⟨e, _, h⟩)
  · omega
  · simp at h
theorem nm_succ {es : List FE} {i j : Nat} {e : FE} {s : ByteArray} (he : es[i]? = some e) (hj : j < e.ns.length) : NM es i (j + 1) s ↔ NM es i j s ∨ s = e.ns.getD j ByteArray.empty := by
  have h1 : e.ns.take (j + 1) = e.ns.take j ++ [e.ns.getD j ByteArray.empty] := by
    rw [List.take_succ_eq_append_getElem hj]
    simp [hj]
  constructor
  · rintro (h | ⟨e', h2, h3⟩)
    · exact .inl (.inl h)
    · rw [he] at h2
      cases h2
      rw [h1, List.mem_append, List.mem_singleton] at h3
      rcases h3 with h3 | h3
      · exact .inl (.inr ⟨e, he, h3⟩)
      · exact .inr h3
  · rintro ((h | ⟨e', h2, h3⟩) | h)
    · exact .inl h
    · rw [he] at h2
      cases h2
      exact .inr ⟨e, he, by rw [h1]; exact List.mem_append_left _ h3⟩
    · exact .inr ⟨e, he, by rw [h1, h]; simp⟩
theorem nm_over {es : List FE} {i : Nat} {e : FE} {s : ByteArray} (he : es[i]? = some e) : NM es (i + 1) 0 s ↔ NM es i e.ns.length s := by
  constructor
  · rintro (⟨i', e', h1, h2, h3⟩ | ⟨e', _, h⟩)
    · rcases Nat.lt_or_ge i' i with h | h
      · exact .inl ⟨i', e', h, h2, h3⟩
      · obtain rfl : i' = i := by omega
        rw [he] at h2
        cases h2
        exact .inr ⟨e, he, by simpa using h3⟩
    · simp at h
  · rintro (⟨i', e', h1, h2, h3⟩ | ⟨e', h2, h3⟩)
    · exact .inl ⟨i', e', by omega, h2, h3⟩
    · rw [he] at h2
      cases h2
      exact .inl ⟨i, e, by omega, he, List.mem_of_mem_take h3⟩
/-- What stands at the head of a round. -/
def MBI (w wr : World) (es : List FE) (i j : Nat) (u : Value) : Prop :=
  ∃ (A : Option Addr) (c : Nat) (out : List SN), u = .slice A out.length c ∧ Seens wr wr.heap.size A out.length out ∧ out.length ≤ i * 12 + j ∧ (∀ s, (∃ x ∈ out, x.1 = s) ↔ NM es i j s) ∧ Below w.heap.size w wr
def MbPost (es : List FE) (w : World) (e : Ending) (w' : World) : Prop :=
  (∃ (A : Option Addr) (c : Nat) (out : List SN), e = .returned (.slice A out.length c) ∧ Seens w' w'.heap.size A out.length out ∧ out.length ≤ 144 ∧ ∀ s, (∃ x ∈ out, x.1 = s) ↔ ∃ e ∈ es, s ∈ e.ns) ∧ Below w.heap.size w w'
theorem mb_next {w wr w2 : World} {es : List FE} {i j : Nat} {e : FE} {l out : List SN} {A2 : Option Addr} {c2 : Nat} (he : es[i]? = some e) (hj : j < e.ns.length) (hl : l.length ≤ i * 12 + j) (hn : ∀ s, (∃ x ∈ l, x.1 = s) ↔ NM es i j s) (hb : Below w.heap.size w wr)
    (h1 : Seens w2 w2.heap.size A2 out.length out) (h2 : out.length ≤ l.length + 1) (h3 : ∀ s, (∃ x ∈ out, x.1 = s) ↔ (∃ x ∈ l, x.1 = s) ∨ s = e.ns.getD j ByteArray.empty) (hd : Below wr.heap.size wr w2) :
    MBI w w2 es i (j + 1) (.slice A2 out.length c2) :=
  ⟨A2, c2, out, rfl, h1, by omega, fun s => by rw [h3, hn, nm_succ he hj], hb.trans (hd.mono hb.size)⟩
theorem keep4 {w w' : World} (hb : Below w.heap.size w w') {p1 p2 p3 p4 : Addr} {u1 u2 u3 u4 : Value} (c1 : w.cell? p1 = some u1) (c2 : w.cell? p2 = some u2) (c3 : w.cell? p3 = some u3) (c4 : w.cell? p4 = some u4) :
    Below w.heap.size w w' ∧ w'.cell? p1 = some u1 ∧ w'.cell? p2 = some u2 ∧ w'.cell? p3 = some u3 ∧ w'.cell? p4 = some u4 :=
  have k : ∀ {p : Addr} {u : Value}, w.cell? p = some u → w'.cell? p = some u := fun {p} {_} h => (hb.cell (World.block_lt_of_cell? w p h)).trans h
  ⟨hb, k c1, k c2, k c3, k c4⟩

set_option maxRecDepth 100000 in
set_option maxHeartbeats 3200000 in
theorem MadeBy_any (A : Option Addr) (n c : Nat) (es : List FE) (B : Nat) (w : World) (h : FSteps w B A n es) (hB : B ≤ w.heap.size) (hn : n ≤ 12) (hok : ∀ e ∈ es, OkF e ∧ e.is = false) :
    Calls Tryd.prog 8 #[.slice A n c] w (MbPost es w) := by
  have HH := Lib.hid h
  have HL := Lib.hid h.1
  have HO := Lib.hid hok
  clear h hok
  go_enter Tryd.func8, Tryd.ntmps8
  go_wp2_with fail
  go_loopw [3, 4] (fun u t wr => ∃ i : Nat, i ≤ n ∧ t = .int .i64 i ∧ Hid (MBI w wr es i 0 u)) (fun _ t _ => n - (intOf t).toNat)
  case atStart =>
    refine ⟨0, Nat.zero_le _, rfl, Lib.hid ⟨none, 0, [], rfl, ⟨rfl, Reads.none_⟩, by simp, fun s => ?_, Below.refl _ _⟩⟩
    constructor
    · rintro ⟨x, hx, _⟩
      cases hx
    · exact fun h => absurd h (nm_start es s)
  case round =>
    obtain ⟨i, hi, rfl, HI⟩ := hrel
    by_cases hlt : i < n
    · have HBW : Hid (Below w.heap.size w wr) := Lib.hid (by obtain ⟨_, _, _, _, _, _, _, h⟩ := HI.out; exact h)
      obtain ⟨b, o, e, rfl, hb, hek, hstr, hints, c0, c1, c2, c3⟩ := (HH.out.below HBW.out hB).at_ hlt
      have hoe := HO.out e (List.mem_of_getElem? hek)
      obtain ⟨⟨q1, q2, q3, q4⟩, q5⟩ := hoe
      have HE := Lib.hid hek
      have hbl : b < w.heap.size := by omega
      have C2 := Lib.hid ((HBW.out.cell (p := ⟨b, o + i * 4 + 2, none⟩) hbl).symm.trans c2)
      have C3 := Lib.hid ((HBW.out.cell (p := ⟨b, o + i * 4 + 3, none⟩) hbl).symm.trans c3)
      have HS := Lib.hid hstr
      have HN := Lib.hid hints
      rw [q5] at c0
      clear hek hstr hints c1 c3
      go_wp2_with fail
      obtain ⟨wi, hwi⟩ : ∃ wi, wi = wr := ⟨_, rfl⟩
      subst hwi
      go_loopw [3, 5] (fun u t wr => ∃ j : Nat, j ≤ e.n ∧ t = .int .i64 j ∧ Hid (Below wi.heap.size wi wr) ∧ Hid (MBI w wr es i j u)) (fun _ t _ => e.n - (intOf t).toNat)
      case atStart => exact ⟨0, Nat.zero_le _, rfl, Lib.hid (Below.refl _ _), HI⟩
      case round =>
        obtain ⟨j, hj, rfl, HJ, HM⟩ := hrel
        have hBi := HBW.out.trans (HJ.out.mono HBW.out.size)
        have d2 := (hBi.cell (p := ⟨b, o + i * 4 + 2, none⟩) hbl).trans C2.out
        have d3 := (hBi.cell (p := ⟨b, o + i * 4 + 3, none⟩) hbl).trans C3.out
        by_cases hlj : j < e.n
        · obtain ⟨Al, cl, l, rfl, g1, g2, g3, g4⟩ := HM.out
          have hBx : B ≤ wi.heap.size := Nat.le_trans hB HBW.out.size
          obtain ⟨ad, hA, -, e0⟩ := Strs.at_ (Reads.below HS.out (HJ.out.mono hBx)) hlj
          obtain ⟨ad2, hA2, -, e1⟩ := Ints.at_ (Reads.below HN.out (HJ.out.mono hBx)) (show j < e.n2 by omega)
          have hnl : e.ns.length = e.n := by simpa using HS.out.1
          have HG1 := Lib.hid g1
          have HG := Lib.hid (And.intro g2 (And.intro g3 g4))
          clear g1 g2 g3 g4
          obtain ⟨is, rm, A1, n1, c1', ns, A2, n2, c2', hs⟩ := e
          simp only at hA hA2 q1 hlj hnl e0 e1 d2 d3
          subst hA hA2 q1
          generalize hx : ns.getD j ByteArray.empty = nm at e0
          generalize hy : hs.getD j 0 = hd at e1
          have HX := Lib.hid hx
          clear hx hy
          go_wp2_with fail
          go_region_held3 (fun w' => Below wr.heap.size wr w' ∧ w'.cell? ⟨b, o + i * 4 + 2, none⟩ = some (.slice (some ad) n1 c1') ∧ w'.cell? (ad.add j) = some (.string nm) ∧ w'.cell? ⟨b, o + i * 4 + 3, none⟩ = some (.slice (some ad2) n1 c2') ∧ w'.cell? (ad2.add j) = some (.int .i64 hd))
            ((refine keep4 ?_ d2 e0 d3 e1; repeat (first | with_reducible exact Below.refl _ _ | with_reducible exact hk9 | with_reducible apply Below.drew)))
            ((go_at_call 17; refine (seenWith_any Al l.length cl l nm hd wr.drew HG1.out (by have := HG.out.1; omega)).mono ?_; rintro e9 w9 ⟨⟨A9, c9, out, rfl, k1, k2, k3⟩, k4⟩; have hk9 : Below wr.heap.size wr w9 := (Below.refl wr.heap.size wr).drew.trans k4))
          all_goals
            have HNX := Lib.hid (mb_next (c2 := c9) HE.out (by simpa [hnl] using hlj) HG.out.1 HG.out.2.1 HG.out.2.2 k1 k2 (by rw [HX.out]; exact k3) hk9)
            have HK := Lib.hid (HJ.out.trans (hk9.mono HJ.out.size))
            clear k1 k2 k3 k4 hk9
            go_wp2_with fail
            go_roundw
            case rel => exact ⟨j + 1, by omega, by go_num, HK, HNX⟩
            case measure => simp [intOf]; omega
        · obtain rfl : j = e.n := by omega
          have hnl : e.ns.length = e.n := by simpa using HS.out.1
          obtain ⟨Al, cl, l, rfl, g1, g2, g3, g4⟩ := HM.out
          have HNX : Hid (MBI w wr es (i + 1) 0 (.slice Al l.length cl)) := Lib.hid ⟨Al, cl, l, rfl, g1, by omega, fun s => by rw [g3, nm_over HE.out, hnl], g4⟩
          clear g1 g2 g3 g4
          go_wp2_with fail
          go_roundw
          case rel => exact ⟨i + 1, by omega, by go_num, HNX⟩
          case measure => simp [intOf]; omega
    · obtain rfl : i = n := by omega
      obtain ⟨Al, cl, l, rfl, g1, g2, g3, g4⟩ := HI.out
      go_wp2_with fail
      go_ret
      refine ⟨⟨Al, cl, l, rfl, g1, by omega, fun s => ?_⟩, g4⟩
      rw [g3]
      constructor
      · rintro (⟨i', e, h1, h2, h3⟩ | ⟨e, h2, h3⟩)
        · exact ⟨e, List.mem_of_getElem? h2, h3⟩
        · exact ⟨e, List.mem_of_getElem? h2, List.mem_of_mem_take h3⟩
      · rintro ⟨e, h2, h3⟩
        obtain ⟨i', hi', rfl⟩ := List.getElem_of_mem h2
        exact .inl ⟨i', _, by rw [← HL.out]; exact hi', List.getElem?_eq_getElem hi', h3⟩
end Go.Proofs.YtkbjcpeogecbgaaDoor
