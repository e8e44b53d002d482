/-
  kinds, specs, args: of which kinds some nodes are.
-/
import Derived.Test.YtdhhdnopilfifaaPrKids
import Derived.Deep.DeepCutAuto
namespace Go.Proofs.Ytdhhdnopilfifaa
open Go.RowKit

set_option maxRecDepth 100000 in
set_option maxHeartbeats 3200000 in
theorem kinds_any (A : Option Addr) (n c : Nat) (es : List ND) (B : Nat) (w : World) (h : Nodes w B A n es) (hB : B ≤ w.heap.size) (_hn : n ≤ 1000000) (A2 : Option Addr) (c2 : Nat) (l : List Nat) (hk : KS w A2 (natI l)) (hl : ∀ k ∈ l, k < n) (hll : l.length ≤ 1000000)
    (A3 : Option Addr) (c3 : Nat) (ks : List Int) (hks : KS w A3 ks) (hkl : ks.length ≤ 1000) :
    Calls Try.prog 30 #[.slice A n c, .slice A2 l.length c2, .slice A3 ks.length c3] w (BPost (∀ k ∈ l, Kd es ks k) w) := by
  have HH := Lib.hid h
  have HK := Lib.hid hk
  have HKS := Lib.hid hks
  have HL := Lib.hid hl
  clear h hk hl hks
  go_enter Try.func30, Try.ntmps30
  go_wp2_with fail
  go_loopw [7, 8, 9] (fun t _ _ wr => ∃ j : Nat, j ≤ l.length ∧ t = .int .i64 j ∧ Hid (∀ k ∈ l.take j, Kd es ks k) ∧ Hid (Below w.heap.size w wr)) (fun t _ _ _ => l.length - (intOf t).toNat)
  case atStart => exact ⟨0, Nat.zero_le _, rfl, Lib.hid (fun k hk => by cases hk), Lib.hid (Below.refl _ _)⟩
  case round =>
    obtain ⟨j, hj, rfl, HE, HB⟩ := hrel
    by_cases hlt : j < l.length
    · have hg := List.getElem?_eq_getElem hlt
      have hm := List.getElem_mem hlt
      generalize l[j] = k at *
      have hkn := HL.out k hm
      have HG := Lib.hid hg
      obtain ⟨wj, hwj⟩ : ∃ wj, wj = wr := ⟨_, rfl⟩
      subst hwj
      have HBJ := Lib.hid (HB.out)
      clear hm
      go_wp2_with fail
      go_loopw [8, 9] (fun u t wx => ∃ i : Nat, i ≤ ks.length ∧ t = .int .i64 i ∧ ∃ is : Bool, u = .bool is ∧ Hid (is = true → Kd es ks k) ∧ Hid (Below w.heap.size w wx)) (fun _ t _ => ks.length - (intOf t).toNat)
      case atStart => exact ⟨0, Nat.zero_le _, rfl, false, rfl, Lib.hid (fun h => by cases h), HBJ⟩
      case round =>
        obtain ⟨i, hi, rfl, is, rfl, HIS, HBI⟩ := hrel
        have HBQ := fun q => Lib.hid (below_drewN HBI.out q)
        by_cases hli : i < ks.length
        · have hgi := List.getElem?_eq_getElem hli
          have hmi := List.getElem_mem hli
          generalize ks[i] = kk at *
          obtain ⟨g, off, rfl, -, hc⟩ := (HK.out.below HBI.out).at_ (natI_get hg)
          obtain ⟨g3, off3, rfl, -, hc3⟩ := (HKS.out.below HBI.out).at_ hgi
          obtain ⟨b, o, e, rfl, hbb, hek, c0, -⟩ := (HH.out.below HBI.out hB).at_ hkn
          have HEK := Lib.hid hek
          have HMI := Lib.hid hmi
          have d0 := fun (q : Nat) => (show (wr.drewN q).cell? ⟨b, o + k * 5, none⟩ = some (.int .i64 e.kind) from c0)
          have d1 := fun (q : Nat) => (show (wr.drewN q).cell? ⟨g, off + j, none⟩ = some (.int .i64 k) from hc)
          have d2 := fun (q : Nat) => (show (wr.drewN q).cell? ⟨g3, off3 + i, none⟩ = some (.int .i64 kk) from hc3)
          clear hek hgi hmi
          have y1 : (0 : Int) ≤ (k : Int) := by omega
          have y2 : (k : Int) < (n : Int) := by omega
          cases is
          · cases hq : (e.kind == kk)
            · generalize e.kind = ek at *
              go_wp2_with fail
              go_quiet ((fail))
              go_wp2_with fail
              go_roundw
              case rel => exact ⟨i + 1, by omega, by go_num, false, rfl, HIS, HBQ _⟩
              case measure => simp [intOf]; omega
            · have HN : Hid (true = true → Kd es ks k) := Lib.hid (fun _ => ⟨e, HEK.out, by rw [show e.kind = kk by simpa using hq]; exact HMI.out⟩)
              generalize e.kind = ek at *
              go_wp2_with fail
              go_quiet ((fail))
              go_wp2_with fail
              go_roundw
              case rel => exact ⟨i + 1, by omega, by go_num, true, rfl, Lib.hid (fun _ => HN.out (by trivial)), HBQ _⟩
              case measure => simp [intOf]; omega
          · generalize e.kind = ek at *
            go_wp2_with fail
            go_quiet ((fail))
            go_wp2_with fail
            go_roundw
            case rel => exact ⟨i + 1, by omega, by go_num, true, rfl, Lib.hid (fun _ => HIS.out (by trivial)), HBQ _⟩
            case measure => simp [intOf]; omega
        · obtain rfl : i = ks.length := by omega
          cases is
          · go_wp2_with fail
            go_ret
            exact BPost.ret rfl (fun h => by cases h) HBI.out
          · have hx := HIS.out (by trivial)
            have HN : Hid (∀ a ∈ l.take (j + 1), Kd es ks a) := Lib.hid (fun a ha => by
              rw [List.take_add_one, HG.out, Option.toList_some, List.mem_append, List.mem_singleton] at ha
              rcases ha with ha | rfl
              · exact HE.out a ha
              · exact hx)
            clear hx
            go_wp2_with fail
            go_roundw
            case rel => exact ⟨j + 1, by omega, by go_num, HN, HBI⟩
            case measure => simp [intOf]; omega
    · obtain rfl : j = l.length := by omega
      have HN : Hid (∀ k ∈ l, Kd es ks k) := Lib.hid (by have := HE.out; rwa [List.take_length] at this)
      go_wp2_with fail
      go_ret
      exact BPost.ret rfl (fun _ => HN.out) HB.out
def SpecsP (es : List ND) (l : List Nat) : Prop := (∃ a r, l = a :: r ∧ Kd es [38] a) ∧ ∀ k ∈ l, Kd es [38, 39] k
set_option maxRecDepth 100000 in
set_option maxHeartbeats 3200000 in
theorem specs_any (A : Option Addr) (n c : Nat) (es : List ND) (B : Nat) (w : World) (h : Nodes w B A n es) (hB : B ≤ w.heap.size) (hn : n ≤ 1000000) (A2 : Option Addr) (c2 : Nat) (l : List Nat) (hk : KS w A2 (natI l)) (hl : ∀ k ∈ l, k < n) (hll : l.length ≤ 1000000) :
    Calls Try.prog 38 #[.slice A n c, .slice A2 l.length c2] w (BPost (SpecsP es l) w) := by
  cases l with
  | nil =>
    go_enter Try.func38, Try.ntmps38
    go_wp2
    go_ret
    exact BPost.ret rfl (fun h => by cases h) (Below.refl _ _)
  | cons a r =>
    have HH := Lib.hid h
    have HK := Lib.hid hk
    have HL := Lib.hid hl
    have ha := hl a (List.mem_cons_self ..)
    obtain ⟨g, off, rfl, -, hc⟩ := hk.at_ (j := 0) (x := (a : Int)) rfl
    obtain ⟨b, o, e, rfl, hbb, hek, c0, -⟩ := h.at_ ha
    have HE := Lib.hid hek
    simp only [Nat.add_zero] at hc
    clear h hk hl hek
    have hpos : (0 : Int) < ((a :: r).length : Int) := by simp only [List.length_cons]; omega
    have hposn : 0 < (a :: r).length := by simp
    obtain ⟨m, hm⟩ : ∃ m, m = (a :: r).length := ⟨_, rfl⟩
    have HM := Lib.hid hm
    rw [← hm] at hpos hposn hll ⊢
    clear hm
    cases hq : (e.kind == 38)
    · generalize e.kind = ek at *
      go_enter Try.func38, Try.ntmps38
      go_wp2
      go_ret
      exact BPost.ret rfl (fun h => by cases h) (Below.refl _ _)
    · have HA : Hid (Kd es [38] a) := Lib.hid ⟨e, HE.out, by rw [show e.kind = 38 by simpa using hq]; simp⟩
      generalize e.kind = ek at *
      have HB0 := Lib.hid (show Below w.heap.size w (w.alloc (.cells #[.int .i64 38, .int .i64 39] 3)) from belowS_alloc (Below.refl _ _) _)
      have K := Lib.hid (kinds_any (some ⟨b, o, none⟩) n c es B (w.alloc (.cells #[.int .i64 38, .int .i64 39] 3)) (HH.out.below HB0.out hB) (Nat.le_trans hB HB0.out.size) hn (some ⟨g, off, none⟩) c2 (a :: r) (HK.out.below HB0.out) HL.out (by rw [← HM.out]; exact hll) (some ⟨w.heap.size, 0, none⟩) 2 [38, 39] (KS.new w _ _ rfl) (by simp))
      rw [← HM.out] at K
      go_enter Try.func38, Try.ntmps38
      go_wp2_with fail
      refine K.out.mono ?_
      rintro e1 w1 ⟨⟨b1, rfl, hb1⟩, hw1⟩
      have HB1 := Lib.hid (HB0.out.trans (hw1.mono HB0.out.size))
      cases b1
      · clear hb1 hw1
        go_wp2_with fail
        go_ret
        exact BPost.ret rfl (fun h => by cases h) HB1.out
      · have HX := Lib.hid (hb1 (by trivial))
        clear hb1 hw1
        go_wp2_with fail
        go_ret
        exact BPost.ret rfl (fun _ => ⟨⟨a, r, rfl, HA.out⟩, HX.out⟩) HB1.out
/-- Is a node's text empty. -/
def txOf (es : List ND) (k : Nat) : Nat := match es[k]? with | some e => e.text.size | none => 0
def ArgsP (es : List ND) (l : List Nat) : Prop := (∀ k ∈ l, Kd es [34] k) ∧ ∀ (i a b : Nat), l[i]? = some a → l[i + 1]? = some b → txOf es a ≠ 0 → txOf es b ≠ 0
theorem empty_is {s : ByteArray} (h : s.size = 0) : s.toList.isEmpty = true := by
  rw [ByteArray.toList_eq, List.isEmpty_iff]
  exact List.eq_nil_of_length_eq_zero (by rw [Array.length_toList]; exact h)
theorem empty_not {s : ByteArray} (h : s.size ≠ 0) : s.toList.isEmpty = false := by
  rw [ByteArray.toList_eq]
  cases hl : s.data.toList with
  | nil => exact absurd (show s.data.size = 0 by rw [← Array.length_toList, hl]; rfl) h
  | cons a l => rfl
set_option maxRecDepth 100000 in
set_option maxHeartbeats 3200000 in
theorem args_any (A : Option Addr) (n c : Nat) (es : List ND) (B : Nat) (w : World) (h : Nodes w B A n es) (hB : B ≤ w.heap.size) (hn : n ≤ 1000000) (A2 : Option Addr) (c2 : Nat) (l : List Nat) (hk : KS w A2 (natI l)) (hl : ∀ k ∈ l, k < n) (hll : l.length ≤ 1000000) :
    Calls Try.prog 40 #[.slice A n c, .slice A2 l.length c2] w (BPost (ArgsP es l) w) := by
  have HH := Lib.hid h
  have HK := Lib.hid hk
  have HL := Lib.hid hl
  have HB0 := Lib.hid (show Below w.heap.size w (w.alloc (.cells #[.int .i64 34] 3)) from belowS_alloc (Below.refl _ _) _)
  have K := Lib.hid (kinds_any A n c es B (w.alloc (.cells #[.int .i64 34] 3)) (h.below HB0.out hB) (Nat.le_trans hB HB0.out.size) hn A2 c2 l (hk.below HB0.out) hl hll (some ⟨w.heap.size, 0, none⟩) 1 [34] (KS.new w _ _ rfl) (by simp))
  clear h hk hl
  go_enter Try.func40, Try.ntmps40
  go_wp2_with fail
  refine K.out.mono ?_
  rintro e1 w1 ⟨⟨b1, rfl, hb1⟩, hw1⟩
  have HB1 := Lib.hid (HB0.out.trans (hw1.mono HB0.out.size))
  cases b1
  · clear hb1 hw1
    go_wp2_with fail
    go_ret
    exact BPost.ret rfl (fun h => by cases h) HB1.out
  · have HX := Lib.hid (hb1 (by trivial))
    clear hb1 hw1 K
    go_wp2_with fail
    go_loopw [5] (fun t wr => ∃ j : Nat, 1 ≤ j ∧ (j ≤ l.length ∨ j = 1) ∧ t = .int .i64 j ∧ Hid (∀ (i a b : Nat), i + 1 < j → l[i]? = some a → l[i + 1]? = some b → txOf es a ≠ 0 → txOf es b ≠ 0) ∧ Hid (Below w.heap.size w wr)) (fun t _ => l.length - (intOf t).toNat)
    case atStart => exact ⟨1, Nat.le_refl _, .inr rfl, by trivial, Lib.hid (fun i a b hi => by omega), HB1⟩
    case round =>
      obtain ⟨j, hj1, hj, rfl, HE, HB⟩ := hrel
      by_cases hlt : j < l.length
      · obtain ⟨j', rfl⟩ : ∃ j', j = j' + 1 := ⟨j - 1, by omega⟩
        have hg := List.getElem?_eq_getElem hlt
        have hm := List.getElem_mem hlt
        have hlt' : j' < l.length := by omega
        have hg' := List.getElem?_eq_getElem hlt'
        have hm' := List.getElem_mem hlt'
        generalize l[j' + 1] = k at *
        generalize l[j'] = k' at *
        have hkn := HL.out k hm
        have hkn' := HL.out k' hm'
        obtain ⟨g, off, rfl, -, hc⟩ := (HK.out.below HB.out).at_ (natI_get hg)
        obtain ⟨g2, off2, hA2, -, hc'⟩ := (HK.out.below HB.out).at_ (natI_get hg')
        cases hA2
        obtain ⟨b, o, e, rfl, hbb, hek, -, -, c2e, -⟩ := (HH.out.below HB.out hB).at_ hkn
        obtain ⟨b', o', e', hA, hbb', hek', -, -, c2e', -⟩ := (HH.out.below HB.out hB).at_ hkn'
        cases hA
        have HG := Lib.hid hg
        have HG' := Lib.hid hg'
        have HT : Hid (txOf es k = e.text.size) := Lib.hid (by unfold txOf; rw [hek])
        have HT' : Hid (txOf es k' = e'.text.size) := Lib.hid (by unfold txOf; rw [hek'])
        clear hg hm hg' hm' hek hek' hbb'
        generalize e.text = tx at *
        generalize e'.text = tx' at *
        have wj : IntKind.i64.wrap (((j' + 1 : Nat) : Int) - 1) = (j' : Int) := by rw [IntWalk.i64_in _ (by omega)]; omega
        have wj2 : IntKind.i64.wrap ((j' : Int) + 1 - 1) = (j' : Int) := by rw [IntWalk.i64_in _ (by omega)]; omega
        by_cases h1 : tx'.size = 0
        · have q1 := empty_is h1
          have HN : Hid (∀ (i a b : Nat), i + 1 < j' + 1 + 1 → l[i]? = some a → l[i + 1]? = some b → txOf es a ≠ 0 → txOf es b ≠ 0) := Lib.hid (fun i a b hi ha hb hta => by
            rcases Nat.lt_or_ge (i + 1) (j' + 1) with g | g
            · exact HE.out i a b g ha hb hta
            · obtain rfl : i = j' := by omega
              have := ha.symm.trans HG'.out
              cases this
              exact absurd (HT'.out.trans h1) hta)
          clear h1
          go_wp2_with fail
          go_roundw
          case rel => exact ⟨j' + 1 + 1, by omega, .inl (by omega), by go_num, HN, HB⟩
          case measure => simp [intOf]; omega
        · have q1 := empty_not h1
          by_cases h2 : tx.size = 0
          · have q2 := empty_is h2
            clear h1 h2
            go_wp2_with fail
            go_ret
            exact BPost.ret rfl (fun h => by cases h) HB.out
          · have q2 := empty_not h2
            have HN : Hid (∀ (i a b : Nat), i + 1 < j' + 1 + 1 → l[i]? = some a → l[i + 1]? = some b → txOf es a ≠ 0 → txOf es b ≠ 0) := Lib.hid (fun i a b hi ha hb hta => by
              rcases Nat.lt_or_ge (i + 1) (j' + 1) with g | g
              · exact HE.out i a b g ha hb hta
              · obtain rfl : i = j' := by omega
                have := hb.symm.trans HG.out
                cases this
                rw [HT.out]
                exact h2)
            clear h1 h2
            go_wp2_with fail
            go_roundw
            case rel => exact ⟨j' + 1 + 1, by omega, .inl (by omega), by go_num, HN, HB⟩
            case measure => simp [intOf]; omega
      · have hge : ¬ (j : Int) < (l.length : Int) := by omega
        have HN : Hid (∀ (i a b : Nat), l[i]? = some a → l[i + 1]? = some b → txOf es a ≠ 0 → txOf es b ≠ 0) := Lib.hid (fun i a b ha hb => HE.out i a b (by have := (List.getElem?_eq_some_iff.1 hb).1; omega) ha hb)
        go_wp2_with fail
        go_ret
        exact BPost.ret rfl (fun _ => ⟨HX.out, HN.out⟩) HB.out
end Go.Proofs.Ytdhhdnopilfifaa
