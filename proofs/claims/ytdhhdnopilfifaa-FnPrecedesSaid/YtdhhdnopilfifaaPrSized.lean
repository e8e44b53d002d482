/-
  sized, expr: do the sizes of nodes fit.
-/
import Derived.Test.YtdhhdnopilfifaaPrND
namespace Go.Proofs.Ytdhhdnopilfifaa
open Go.RowKit

theorem KidsIs.snoc {es : List ND} {a k : Nat} {l : List Nat} {x : ND} (h : KidsIs es a k l) (hx : es[k]? = some x) (h1 : 1 ≤ x.size) : KidsIs es a (k + x.size.toNat) (l ++ [k]) := by
  induction h with
  | nil e => exact .cons hx h1 (by omega) (.nil _)
  | cons hy g1 g2 g ih => exact .cons hy g1 (by have := g.le; omega) (ih hx)
/-- What holds of a node whose sizes fit, ahead of an end. -/
def SzP (es : List ND) (at_ end_ : Nat) : Prop :=
  ∃ x, es[at_]? = some x ∧ 1 ≤ x.size ∧ (at_ : Int) + x.size ≤ end_ ∧ ∀ i, at_ ≤ i → (i : Int) < at_ + x.size → ∃ l, FitN es es.length i l
/-- So far: these are the kids, and all nodes up to here fit. -/
def SzI (es : List ND) (at_ k : Nat) : Prop := (∃ l, KidsIs es (at_ + 1) k l) ∧ ∀ i, at_ + 1 ≤ i → i < k → ∃ l, FitN es es.length i l
theorem szI_step {es : List ND} {at_ k e : Nat} {x : ND} (h : SzI es at_ k) (hx : es[k]? = some x) (hs : SzP es k e) (_hk : at_ + 1 ≤ k) : SzI es at_ (k + x.size.toNat) := by
  obtain ⟨y, hy, h1, h2, h3⟩ := hs
  rw [hx] at hy
  cases hy
  obtain ⟨⟨l, hl⟩, hf⟩ := h
  refine ⟨⟨_, hl.snoc hx h1⟩, fun i g1 g2 => ?_⟩
  rcases Nat.lt_or_ge i k with g | g
  · exact hf i g1 g
  · exact h3 i g (by omega)
theorem szP_of {es : List ND} {at_ e : Nat} {x : ND} (hx : es[at_]? = some x) (h1 : 1 ≤ x.size) (h2 : (at_ : Int) + x.size ≤ e) (he : e ≤ es.length) (h : SzI es at_ (at_ + x.size.toNat)) : SzP es at_ e := by
  obtain ⟨⟨l, hl⟩, hf⟩ := h
  refine ⟨x, hx, h1, h2, fun i g1 g2 => ?_⟩
  rcases Nat.eq_or_lt_of_le g1 with rfl | g
  · exact ⟨l, x, hx, h1, by omega, hl⟩
  · exact hf i g (by omega)
set_option maxRecDepth 100000 in
set_option maxHeartbeats 1600000 in
theorem sized_any (A : Option Addr) (n c : Nat) (es : List ND) (B : Nat) (hn : n ≤ 2147483647) : ∀ (fuel at_ end_ : Nat) (w : World), Nodes w B A n es → B ≤ w.heap.size → at_ < end_ → end_ ≤ n → end_ - at_ ≤ fuel →
    Calls Try.prog 15 #[.slice A n c, .int .i64 at_, .int .i64 end_] w (BPost (SzP es at_ end_) w)
  | 0, at_, end_, w, h, hB, h1, h2, hf => absurd hf (by omega)
  | fuel + 1, at_, end_, w, h, hB, h1, h2, hf => by
    have IH := Lib.hid (sized_any A n c es B hn fuel)
    have HH := Lib.hid h
    obtain ⟨b, o, e, rfl, hbb, hek, -, -, -, -, c4⟩ := h.at_ (show at_ < n by omega)
    have HE := Lib.hid hek
    have HL := Lib.hid h.1
    clear h hek
    have ws : IntKind.i64.wrap ((end_ : Int) - at_) = (end_ : Int) - at_ := IntWalk.i64_in _ (by omega)
    by_cases hs1 : e.size < 1
    · generalize e.size = sz at *
      go_enter Try.func15, Try.ntmps15
      go_wp2_with fail
      go_ret
      exact BPost.ret rfl (fun h => by cases h) (Below.refl _ _)
    · by_cases hs2 : (end_ : Int) - at_ < e.size
      · generalize e.size = sz at *
        go_enter Try.func15, Try.ntmps15
        go_wp2_with fail
        go_ret
        exact BPost.ret rfl (fun h => by cases h) (Below.refl _ _)
      · obtain ⟨sz, hsz⟩ : ∃ sz : Nat, e.size = sz := ⟨e.size.toNat, by omega⟩
        rw [hsz] at c4 hs1 hs2
        have hsz1 : 1 ≤ sz := by omega
        have hsz2 : at_ + sz ≤ end_ := by omega
        have HSZ := Lib.hid hsz
        have hz : sz ≤ 2147483647 := by omega
        clear hs1 hs2 hsz
        have hs1 : ¬ ((sz : Int) < 1) := by omega
        have hs2 : ¬ ((end_ : Int) - at_ < sz) := by omega
        go_enter Try.func15, Try.ntmps15
        go_wp2_with fail
        clear ws hs1 hs2
        go_loopw [8] (fun t wr => ∃ k : Nat, at_ + 1 ≤ k ∧ k ≤ at_ + sz ∧ t = .int .i64 k ∧ Hid (SzI es at_ k) ∧ Hid (Below w.heap.size w wr)) (fun t _ => at_ + sz - (intOf t).toNat)
        case atStart => exact ⟨at_ + 1, Nat.le_refl _, by omega, by go_num, Lib.hid ⟨⟨[], .nil _⟩, fun i g1 g2 => by omega⟩, Lib.hid (Below.refl _ _)⟩
        case round =>
          obtain ⟨k, hk1, hk2, rfl, HI, HB⟩ := hrel
          have c4r := (HB.out.cell (p := ⟨b, o + at_ * 5 + 4, none⟩) (by show b < _; omega)).trans c4
          by_cases hlt : k < at_ + sz
          · have hbw := HB.out.size
            obtain ⟨b', o', e', he', hbb', hek', -, -, -, -, c4k⟩ := (HH.out.below HB.out hB).at_ (show k < n by omega)
            cases he'
            have HEK := Lib.hid hek'
            clear hek' hbb'
            go_wp2_with fail
            refine (IH.out k (at_ + sz) _ (HH.out.below HB.out hB) (Nat.le_trans hB hbw) hlt (by omega) (by omega)).mono ?_
            rintro e1 w1 ⟨⟨b1, rfl, hb1⟩, hw1⟩
            have HB1 := Lib.hid (HB.out.trans (hw1.mono hbw))
            cases b1
            · clear hb1 hw1
              go_wp2_with fail
              go_ret
              exact BPost.ret rfl (fun h => by cases h) HB1.out
            · have hzp := hb1 (by trivial)
              have HZP := Lib.hid hzp
              obtain ⟨y, hy, g1, g2, -⟩ := hzp
              rw [HEK.out] at hy
              cases hy
              obtain ⟨sk, hsk⟩ : ∃ sk : Nat, e'.size = sk := ⟨e'.size.toNat, by omega⟩
              rw [hsk] at c4k g1 g2
              have c4k1 := (hw1.cell (p := ⟨b, o + k * 5 + 4, none⟩) (by show b < _; omega)).trans c4k
              have HN := Lib.hid (szI_step HI.out HEK.out HZP.out hk1)
              have HSK := Lib.hid (show e'.size.toNat = sk by omega)
              clear hb1 hw1 hsk c4k
              go_wp2_with fail
              go_roundw
              case rel => exact ⟨k + sk, by omega, by omega, by go_num, Lib.hid (HSK.out ▸ HN.out), HB1⟩
              case measure => simp [intOf]; omega
          · obtain rfl : k = at_ + sz := by omega
            have HP := Lib.hid (szP_of (e := end_) HE.out (by have := HSZ.out; omega) (by have := HSZ.out; omega) (by rw [HL.out]; exact h2) (by rw [HSZ.out]; exact HI.out))
            go_wp2_with fail
            go_ret
            exact BPost.ret rfl (fun _ => HP.out) HB.out
theorem expr_any (A : Option Addr) (n c : Nat) (es : List ND) (B : Nat) (w : World) (h : Nodes w B A n es) (k : Nat) (hk : k < n) (_hn : n ≤ 2147483647) :
    Calls Try.prog 16 #[.slice A n c, .int .i64 k] w (BPost (Ex es k) w) := by
  obtain ⟨b, o, e, rfl, hbb, hek, c0, -⟩ := h.at_ hk
  have HE := Lib.hid hek
  clear h hek
  by_cases h1 : 1 ≤ e.kind <;> by_cases h2 : e.kind ≤ 30
  · have HX := Lib.hid (show Ex es k from ⟨e, HE.out, h1, h2⟩)
    generalize e.kind = kd at *
    go_enter Try.func16, Try.ntmps16
    go_wp2
    go_ret
    exact BPost.ret rfl (fun _ => HX.out) (Below.refl _ _)
  all_goals first
    | (exfalso; omega)
    | skip
  all_goals
    generalize e.kind = kd at *
    go_enter Try.func16, Try.ntmps16
    go_wp2
    go_ret
    exact BPost.ret rfl (fun h => by cases h) (Below.refl _ _)
end Go.Proofs.Ytdhhdnopilfifaa
