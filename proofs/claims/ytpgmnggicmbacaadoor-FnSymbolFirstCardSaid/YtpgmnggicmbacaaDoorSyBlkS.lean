/-
  The language's lexer reads a text block.
-/
import Derived.Test.YtpgmnggicmbacaaDoorSyAdd
import Derived.Test.YtpgmnggicmbacaaDoorLater
import Derived.Test.YtpgmnggicmbacaaDoorSyGc
import Derived.Test.YtpgmnggicmbacaaDoorSyGa
import Derived.Deep.CutBlock
namespace Go.Proofs.YtpgmnggicmbacaaDoor
open Go.Shelf Go.RowKit
set_option linter.unusedVariables false
set_option linter.unusedSimpArgs false

theorem by_out {s : ByteArray} {i : Nat} (h : s.size ≤ i) : by_ s i = 0 := by
  unfold by_
  have : s.get! i = default := by
    show s.data[i]! = default
    have h2 : s.data.size ≤ i := h
    exact getElem!_neg s.data i (by omega)
  rw [this]
  rfl
/-- Blanks and tabs from a place on. -/
def BsR (s : ByteArray) (a : Nat) (w : World) (e : Ending) (w' : World) : Prop := (∃ z : Nat, e = .returned (.int .i64 z) ∧ Upto wsB (by_ s) s.size a z) ∧ w = w'
set_option maxRecDepth 100000 in
set_option maxHeartbeats 1600000 in
theorem blanks_any (b : Nat) (s : ByteArray) (p a : Nat) (out : Value) (bad uns : Bool) (hs : s.size ≤ 1000000) (ha : a ≤ s.size) (w : World) (h : Lx w b s p out bad uns) :
    Calls Tryd.prog 82 #[.pointer (some ⟨b, 0, none⟩), .int .i64 a] w (BsR s a w) := by
  have c0 := h.c0
  clear h
  go_enter Tryd.func82, Tryd.ntmps82
  go_wp2_with fail
  go_loopw [1] (fun t wr => ∃ k : Nat, t = .int .i64 k ∧ k ≤ s.size ∧ wr = w ∧ Hid (UpI wsB s a k)) (fun t _ => s.size - (intOf t).toNat)
  case atStart => exact ⟨a, rfl, ha, rfl, Lib.hid (UpI.start ha)⟩
  case round =>
    obtain ⟨k, rfl, hk, rfl, HU⟩ := hrel
    by_cases hlt : k < s.size
    · have z0 : (k : Int) < (s.size : Int) := by omega
      have z1 : (0 : Int) ≤ (k : Int) := by omega
      have hd := by_eq hlt
      rcases h32 : ((by_ s k : Int) == 32) with _ | _
      · rcases h9 : ((by_ s k : Int) == 9) with _ | _
        · have HE := Lib.hid (show Upto wsB (by_ s) s.size a k from HU.out.done (fun _ => by
            unfold wsB
            simp at h32 h9 ⊢
            omega))
          rw [← hd] at h32 h9
          clear hd
          go_wp2_with fail
          go_ret
          exact ⟨⟨k, rfl, HE.out⟩, rfl⟩
        · have HN := Lib.hid (HU.out.more hlt (by unfold wsB; simp at h9 ⊢; omega))
          rw [← hd] at h32 h9
          clear hd
          go_wp2_with fail
          go_roundw
          case rel => exact ⟨k + 1, by go_num, by omega, by trivial, HN⟩
          case measure => simp [intOf]; omega
      · have HN := Lib.hid (HU.out.more hlt (by unfold wsB; simp at h32 ⊢; omega))
        rw [← hd] at h32
        clear hd
        go_wp2_with fail
        go_roundw
        case rel => exact ⟨k + 1, by go_num, by omega, by trivial, HN⟩
        case measure => simp [intOf]; omega
    · have z0 : ¬ (k : Int) < (s.size : Int) := by omega
      have HE := Lib.hid (show Upto wsB (by_ s) s.size a k from HU.out.done (fun h => absurd h hlt))
      go_wp2_with fail
      go_ret
      exact ⟨⟨k, rfl, HE.out⟩, rfl⟩
theorem upto_ex (p : Nat → Bool) (s : ByteArray) : ∀ (f a : Nat), a ≤ s.size → s.size - a ≤ f → ∃ z, Upto p (by_ s) s.size a z
  | 0, a, ha, hf => ⟨a, (UpI.start ha).done (fun h => by omega)⟩
  | f + 1, a, ha, hf => by
    by_cases h : a < s.size ∧ p (by_ s a) = true
    · obtain ⟨z, h1, h2, h3, h4⟩ := upto_ex p s f (a + 1) h.1 (by omega)
      refine ⟨z, by omega, h2, fun i hi hl => ?_, h4⟩
      rcases Nat.lt_or_ge a i with g | g
      · exact h3 i g hl
      · obtain rfl : i = a := by omega
        exact h.2
    · refine ⟨a, (UpI.start ha).done (fun hl => ?_)⟩
      cases hp : p (by_ s a)
      · rfl
      · exact absurd ⟨hl, hp⟩ h
theorem blanks_at (b : Nat) (s : ByteArray) (p a z : Nat) (out : Value) (bad uns : Bool) (hs : s.size ≤ 1000000) (hz : Upto wsB (by_ s) s.size a z) (w : World) (h : Lx w b s p out bad uns) :
    Calls Tryd.prog 82 #[.pointer (some ⟨b, 0, none⟩), .int .i64 a] w fun e w' => e = .returned (.int .i64 z) ∧ Below w.heap.size w w' := by
  refine (blanks_any b s p a out bad uns hs (Nat.le_trans hz.1 hz.2.1) w h).mono ?_
  rintro e w' ⟨⟨y, rfl, hy⟩, rfl⟩
  rw [upto_uniq hy hz]
  exact ⟨rfl, Below.refl _ _⟩
/-- The lexer (at the text's head) beside a row of bytes that the call owns. -/
def BkI (b : Nat) (s : ByteArray) (w0 wr : World) (u : Bool) (v : Value) (l : List UInt8) : Prop := GpI b s (.slice none 0 0) u w0 wr 0 false ∧ Byts wr w0.heap.size v l
theorem BkI.unsC {b : Nat} {s : ByteArray} {w0 wr : World} {u : Bool} {v : Value} {l : List UInt8} (h : BkI b s w0 wr u v l) (hb : b < w0.heap.size) {y x : Bool} (hv : y = x) : BkI b s w0 (wr.setCell ⟨b, 5, none⟩ (.bool y)) x v l := by
  subst hv
  obtain ⟨⟨h1, h2⟩, h3, h4⟩ := h
  refine ⟨⟨h1.isUns y, grown_set h2 _ _⟩, ⟨h3.1, ?_⟩, h4⟩
  rcases h3.2 with hn | ⟨g, cap, cur, rfl, hg, hgg, rest⟩
  · exact .inl hn
  · exact .inr ⟨g, cap, cur, rfl, hg, (Below.heap_setCell wr ⟨b, 5, none⟩ _ g (fun e => by simp at e; omega)).trans hgg, rest⟩
theorem BkI.push {b : Nat} {s : ByteArray} {w0 wr w2 : World} {u : Bool} {v : Value} {l : List UInt8} (h : BkI b s w0 wr u v l) (hb : b < w0.heap.size) {o : Obj} {g cap : Nat} {x : Value} {c : UInt8} (hx : x = .int .u8 (c.toNat : Int))
    (hown : w2.ownsRow w0.heap.size 5 1 (.slice (some ⟨g, 0, none⟩) (l.length + 1) cap) (l.length + 1) (Lib.byteCells l ++ [x])) (hgrow : (wr.alloc o).grownBy w2 v.ownBlock) :
    BkI b s w0 w2 u (.slice (some ⟨g, 0, none⟩) (l.length + 1) cap) (l ++ [c]) := by
  obtain ⟨⟨h1, h2⟩, h3, h4⟩ := h
  have hne : ∀ k, k < w0.heap.size → some k ≠ v.ownBlock := by
    intro k hk e
    rcases h3.2 with ⟨rfl, _⟩ | ⟨g', cap', cur, rfl, hg, hgg, rest⟩
    · exact h4 rfl
    · simp [Value.ownBlock] at e
      omega
  refine ⟨⟨Blk.grown (Blk.alloc h1 o) hgrow (hne b hb), ?_⟩, ?_, by simp⟩
  · have h5 : w0.grownBy (wr.alloc o) (some b) := grown_trans h2 (grown_below (below_alloc1 _ _) _)
    exact ⟨hgrow.os.trans h5.os, hgrow.tape.trans h5.tape, hgrow.output.trans h5.output, Nat.le_trans h5.size hgrow.size, fun i hi hib => (hgrow.block i (Nat.lt_of_lt_of_le hi h5.size) (hne i hi)).trans (h5.block i hi hib)⟩
  · subst hx
    rw [List.length_append, Lib.byteCells_append]
    exact hown
theorem own_base {w' : World} {e : TypeId} {size n : Nat} {v : Value} {xs : List Value} {B C : Nat} (h : w'.ownsRow C e size v n xs) (hB : B ≤ C) : w'.ownsRow B e size v n xs := by
  refine ⟨h.1, ?_⟩
  rcases h.2 with hn | ⟨g, cap, cur, hv, hg, rest⟩
  · exact .inl hn
  · exact .inr ⟨g, cap, cur, hv, by omega, rest⟩
/-- A line is read up to a place. -/
def LnS (s : ByteArray) (a1 p : Nat) (l l' : List UInt8) : Prop := a1 ≤ p ∧ p ≤ s.size ∧ l' = l ++ bytesAt (by_ s) a1 (p - a1) ∧ ∀ i, a1 ≤ i → i < p → by_ s i ≠ 10
theorem LnS.start {s : ByteArray} {a : Nat} {l : List UInt8} (h : a ≤ s.size) : LnS s a a l l := ⟨Nat.le_refl _, h, by rw [Nat.sub_self, bytesAt_zero, List.append_nil], fun i h1 h2 => absurd h1 (by omega)⟩
theorem LnS.more {s : ByteArray} {a p : Nat} {l l' : List UInt8} (h : LnS s a p l l') (hp : p < s.size) (hne : by_ s p ≠ 10) : LnS s a (p + 1) l (l' ++ [UInt8.ofNat (by_ s p)]) := by
  obtain ⟨h1, h2, rfl, h4⟩ := h
  refine ⟨by omega, hp, ?_, fun i hi hl => ?_⟩
  · rw [List.append_assoc, show p + 1 - a = (p - a) + 1 by omega, bytesAt_snoc, show a + (p - a) = p by omega]
  · rcases Nat.lt_or_ge i p with g | g
    · exact h4 i hi g
    · obtain rfl : i = p := by omega
      exact hne
/-- Where a line's own bytes begin. -/
def At1 (s : ByteArray) (p0 m a a1 : Nat) : Prop := (Nl (by_ s) s.size a ∧ a1 = a) ∨ (¬ Nl (by_ s) s.size a ∧ StM (by_ s) s.size p0 m a ∧ a1 = a + m)
def RunS (s : ByteArray) (p1 p0 m a : Nat) (l : List UInt8) : Prop := Run (by_ s) s.size p0 m p0 (blanks0 p1 p0) a l
theorem run_on {s : ByteArray} {p1 p0 m a a1 p : Nat} {l l' : List UInt8} (h : RunS s p1 p0 m a l) (ha : At1 s p0 m a a1) (hl : LnS s a1 p l l') (hp : p < s.size) (h10 : by_ s p = 10) : RunS s p1 p0 m (p + 1) (l' ++ [10]) := by
  obtain ⟨h1, h2, rfl, h4⟩ := hl
  rcases ha with ⟨hn, rfl⟩ | ⟨hn, hm, rfl⟩
  · have hpa : p = a1 := by
      rcases Nat.lt_or_ge a1 p with g | g
      · exact absurd hn.2 (h4 a1 (Nat.le_refl _) g)
      · omega
    subst hpa
    rw [Nat.sub_self, bytesAt_zero, List.append_nil]
    exact .tail h (.nl hn)
  · exact .tail h (.line hn hm ⟨h1, hp, h10, h4⟩)
theorem run_eof {s : ByteArray} {p0 m a a1 p : Nat} {l l' : List UInt8} (ha : At1 s p0 m a a1) (hl : LnS s a1 p l l') (hp : s.size ≤ p) : ¬ Nl (by_ s) s.size a ∧ StM (by_ s) s.size p0 m a ∧ ∀ e, ¬ LineEnd (by_ s) s.size (a + m) e := by
  obtain ⟨h1, h2, rfl, h4⟩ := hl
  rcases ha with ⟨hn, rfl⟩ | ⟨hn, hm, rfl⟩
  · exact absurd hn.2 (h4 a1 (Nat.le_refl _) (by have := hn.1; omega))
  · exact ⟨hn, hm, fun e he => h4 e he.1 (by have := he.2.1; omega) he.2.2.1⟩
/-- What the text block's reading leaves. -/
def BlPost (b : Nat) (s : ByteArray) (w : World) (e : Ending) (w' : World) : Prop :=
  NoResS e ∧ ∃ (bad u : Bool) (p : Nat) (out : Value), GpI b s out u w w' p bad ∧
    ((bad = true ∧ (u = false → by_ s 3 ≠ 45 ∧ ∀ v, ¬ BlockOk (by_ s) s.size v)) ∨
     (bad = false ∧ ∃ g cap l, out = .slice (some ⟨g, 0, none⟩) 1 cap ∧ TkAt w' g 4 5 ⟨#[]⟩ ⟨l.toArray⟩ 0 p ∧ (u = false → by_ s 3 ≠ 45 ∧ BlockOk (by_ s) s.size l)))
/-- Sure: no dash stands behind the bars. -/
def UnsOk (s : ByteArray) (u : Bool) : Prop := u = false → by_ s 3 ≠ 45
theorem UnsOk.yes (s : ByteArray) : UnsOk s true := fun h => by cases h
def hdT : ByteArray := ⟨#[32, 9, 13]⟩
theorem hasQ_hd : ∀ c : Fin 256, hasQ hdT c.val = hdB c.val := by decide +kernel
set_option maxRecDepth 100000 in
set_option maxHeartbeats 12800000 in
theorem block_any (b : Nat) (s : ByteArray) (uns : Bool) (hs : s.size ≤ 1000000) (h3 : 3 ≤ s.size) (w : World) (h : Lx w b s 0 (.slice none 0 0) false uns) :
    Calls Tryd.prog 47 #[.pointer (some ⟨b, 0, none⟩)] w (BlPost b s w) := by
  obtain ⟨i0, hi, hz, hs0, hbb⟩ := info_parts info_u8
  have hbl := h.lt
  have H0 := Lib.hid (show GpI b s (.slice none 0 0) uns w w 0 false from ⟨h, grown_below (Below.refl _ _) _⟩)
  have c0 := h.c0
  have c1 := h.c1
  have c5 := h.c5
  have f5 := Blk.frozen h 5
  have KH := Lib.hid (fun (c : Nat) (w' : World) => isIn_any c hdT (by show 3 ≤ _; omega) w')
  have KS := Lib.hid (fun (t : ByteArray) (ht : t.size ≤ 1000000) (i : Nat) (hi : i ≤ s.size) (w' : World) => startsG s t i (by omega) (by omega) (by omega) w')
  have E1 := Lib.hid (show stG s ⟨#[45]⟩ 3 = (decide (3 < s.size) && by_ s 3 == 45) from stG1 s 3 45 (by omega))
  clear h
  go_enter Tryd.func47, Tryd.ntmps47
  go_wp2_with fail
  refine (KS.out _ (by show 1 ≤ _; omega) 3 h3 _).mono ?_
  rintro e1 w1 ⟨rfl, rfl⟩
  rw [E1.out]
  obtain ⟨vd, hvd⟩ : ∃ vd, vd = (decide (3 < s.size) && by_ s 3 == 45) := ⟨_, rfl⟩
  rw [← hvd]
  have HVD := Lib.hid hvd
  clear hvd
  go_upto_if 16 with fail
  go_cut [17] (fun _ wx => ∃ u, Hid (GpI b s (.slice none 0 0) u w wx 0 false) ∧ Hid (UnsOk s u))
  case first =>
    cases vd
    · go_wp2_with fail
      go_meet
      refine ⟨uns, H0, Lib.hid (show UnsOk s uns from fun _ h45 => ?_)⟩
      have := HVD.out
      rcases Nat.lt_or_ge 3 s.size with g | g
      · simp [g, h45] at this
      · rw [by_out g] at h45
        cases h45
    · go_wp2_with fail
      go_meet
      exact ⟨true, Lib.hid (H0.out.isUns (by rfl)), Lib.hid (UnsOk.yes s)⟩
  case rest =>
    obtain ⟨u0, HI0, HU0⟩ := hcut
    obtain ⟨w1, hw1⟩ : ∃ w1, w1 = wc := ⟨_, rfl⟩
    subst hw1
    clear H0 c0 c1 c5 f5 HVD E1
    go_upto_block 0 with fail
    go_cut [2] (fun s2 wx => ∃ (p u : _), s2 = .int .i64 (p : Nat) ∧ Hid (GpI b s (.slice none 0 0) u w wx 0 false) ∧ Hid (UnsOk s u) ∧ Hid (Upto hdB (by_ s) s.size 3 p) ∧ p ≤ s.size)
    case first =>
      go_wp2_with fail
      go_loopw [2] (fun t wr => ∃ (k : Nat) (u : Bool), t = .int .i64 k ∧ k ≤ s.size ∧ Hid (GpI b s (.slice none 0 0) u w wr 0 false) ∧ Hid (UnsOk s u) ∧ Hid (UpI hdB s 3 k)) (fun t _ => s.size - (intOf t).toNat)
      case atStart => exact ⟨3, u0, rfl, h3, HI0, HU0, Lib.hid (UpI.start h3)⟩
      case round =>
        clear HI0 HU0
        obtain ⟨k, u, rfl, hk, HI, HU, HK⟩ := hrel
        have c0 := HI.out.1.c0
        by_cases hlt : k < s.size
        · have z0 : (k : Int) < (s.size : Int) := by omega
          have z1 : (0 : Int) ≤ (k : Int) := by omega
          go_wp2_with fail
          refine (KH.out _ _).mono ?_
          rintro e2 w2 ⟨rfl, rfl⟩
          rw [by_eq hlt, hasQ_hd ⟨_, by_lt s k⟩]
          rcases hb2 : hdB (by_ s k) with _ | _
          · have HE := Lib.hid (HK.out.done (fun _ => hb2))
            clear hb2
            go_wp2_with fail
            go_meet
            exact ⟨k, u, rfl, HI, HU, HE, hk⟩
          · have HN := Lib.hid (HK.out.more hlt hb2)
            have c5 := HI.out.1.c5
            have f5 := Blk.frozen HI.out.1 5
            clear hb2
            rcases u with _ | _
            · rcases h13 : ((by_ s k : Int) == 13) with _ | _
              all_goals
                rw [← by_eq hlt] at h13
                have HM1 := Lib.hid (HI.out.isUns (v := false) rfl)
                have HM2 := Lib.hid (HI.out.isUns (v := true) rfl)
                go_wp2_with fail
                go_roundw
                case rel => first
                  | exact ⟨k + 1, false, by go_num, by omega, HM1, HU, HN⟩
                  | exact ⟨k + 1, true, by go_num, by omega, HM2, Lib.hid (UnsOk.yes s), HN⟩
                case measure => simp [intOf]; omega
            · have HM2 := Lib.hid (HI.out.isUns (v := true) rfl)
              go_wp2_with fail
              go_roundw
              case rel => exact ⟨k + 1, true, by go_num, by omega, HM2, HU, HN⟩
              case measure => simp [intOf]; omega
        · have z0 : ¬ (k : Int) < (s.size : Int) := by omega
          have HE := Lib.hid (HK.out.done (fun h => absurd h hlt))
          go_wp2_with fail
          go_meet
          exact ⟨k, u, rfl, HI, HU, HE, hk⟩
    case rest =>
      obtain ⟨p1, u1, rfl, HI1, HU1, HP1, hp1⟩ := hcut
      clear HI0 HU0
      obtain ⟨w2, hw2⟩ : ∃ w2, w2 = wc := ⟨_, rfl⟩
      subst hw2
      have c0 := HI1.out.1.c0
      have f4 := Blk.frozen HI1.out.1 4
      have c4 := HI1.out.1.c4
      by_cases hn1 : Nl (by_ s) s.size p1
      · have z0 : ¬ (s.size : Int) ≤ (p1 : Int) := by have := hn1.1; omega
        have z1 : (0 : Int) ≤ (p1 : Int) := by omega
        have z2 : (p1 : Int) < (s.size : Int) := by have := hn1.1; omega
        have q10 : (((s[p1]'hn1.1).toNat : Int) != 10) = false := by rw [by_eq hn1.1, hn1.2]; rfl
        have hp1s := hn1.1
        have HN1 := Lib.hid hn1
        generalize hn1.1 = hq1 at q10
        clear hn1
        go_upto_block 2 with fail
        have HM := Lib.hid (show BkI b s w (w2.alloc (.cells #[] 5)) u1 (.slice (some ⟨w2.heap.size, 0, none⟩) 0 0) [] from ⟨HI1.out.below (below_alloc1 _ _), by
          have hmade := World.ownsRow_made (e := 5) (size := 1) w2 #[] 0 (Nat.le_refl _) (by unfold maxLen; omega) (by simp)
          exact ⟨own_base hmade HI1.out.2.size, by simp⟩⟩)
        clear c0 f4 c4 HI1 q10 hq1
        go_cut [2, 3] (fun s2 s3 wx => ∃ (p0 : Nat), s2 = .int .i64 p0 ∧ Hid (BkI b s w wx u1 s3 (blanks0 p1 p0)) ∧ Hid (Upto nlB (by_ s) s.size (p1 + 1) p0) ∧ p0 ≤ s.size ∧ p1 + 1 ≤ p0)
        case first =>
          go_wp2_with fail
          go_loopw [2, 3] (fun t v wr => ∃ (k : Nat), t = .int .i64 k ∧ k ≤ s.size ∧ p1 + 1 ≤ k ∧ Hid (BkI b s w wr u1 v (blanks0 p1 k)) ∧ Hid (UpI nlB s (p1 + 1) k)) (fun t _ _ => s.size - (intOf t).toNat)
          case atStart => exact ⟨p1 + 1, by go_num, by omega, by omega, Lib.hid (by have := HM.out; unfold blanks0; simpa using this), Lib.hid (UpI.start (by omega))⟩
          case round =>
            clear HM
            obtain ⟨k, rfl, hk, hk1, HI, HK⟩ := hrel
            have c0 := HI.out.1.1.c0
            by_cases hlt : k < s.size
            · have z3 : (k : Int) < (s.size : Int) := by omega
              have z4 : (0 : Int) ≤ (k : Int) := by omega
              rcases h10 : ((by_ s k : Int) == 10) with _ | _
              · have HE := Lib.hid (HK.out.done (fun _ => by
                  unfold nlB
                  simp at h10 ⊢
                  omega))
                rw [← by_eq hlt] at h10
                go_wp2_with fail
                go_meet
                exact ⟨k, rfl, HI, HE, hk, hk1⟩
              · have HN := Lib.hid (HK.out.more hlt (by unfold nlB; simp at h10 ⊢; omega))
                have HBL := Lib.hid (blanks_more p1 k hk1)
                have hll : (blanks0 p1 k).length ≤ 1000000 := by simp [blanks0]; omega
                have hbs : w.heap.size ≤ wr.heap.size := HI.out.1.2.size
                generalize blanks0 p1 k = l at HI HBL hll
                rw [← by_eq hlt] at h10
                go_wp2_with (at_builtin; refine wpList_append_x _ rfl (.tmp 92) (.tmp 93) 54 rfl w.heap.size 5 i0 _ 1 1 Tryd.underlying54 hi hz hs0 hbb rfl (by omega) u3 l.length _ rfl (HI.out.2.1.alloc _) (wr.heap.size + 1) (some ⟨wr.heap.size, 0, none⟩) 1 1 [.int .u8 10] rfl (Reads.ofCells (cs := #[.int .u8 10]) (heap_new1 _ _) rfl (by omega)) (by simp [Value.oneCell']) (.inr (by omega)) (by unfold maxLen; omega) (by omega) (by simp; omega) (wr.heap.size + 1) (by simp) ?_; intro g2 cap2 w5 hown2 hgrow2 hat2 hlt2)
                have HP := Lib.hid (HI.out.push hbl (c := 10) rfl hown2 hgrow2)
                rw [HBL.out] at HP
                clear hown2 hgrow2 hat2
                go_wp2_with fail
                go_roundw
                case rel => exact ⟨k + 1, by go_num, by omega, by omega, HP, HN⟩
                case measure => simp [intOf]; omega
            · have z3 : ¬ (k : Int) < (s.size : Int) := by omega
              have HE := Lib.hid (HK.out.done (fun h => absurd h hlt))
              go_wp2_with fail
              go_meet
              exact ⟨k, rfl, HI, HE, hk, hk1⟩
        case rest =>
          clear HM
          obtain ⟨p0, rfl, HI2, HP0, hp0, hp01⟩ := hcut
          go_upto_region 13 with fail
          have c0 := HI2.out.1.1.c0
          obtain ⟨z, hz⟩ := upto_ex wsB s s.size p0 hp0 (by omega)
          have hz1 := hz.1
          have hz2 := hz.2.1
          have k0 := fun (y : Later wc) => Later.cell c0 y
          have K := Lib.hid (fun (y : Later wc) => blanks_at b s 0 p0 z _ _ _ hs hz y.val (HI2.out.1.1.below y.ok))
          have HZ := Lib.hid hz
          clear hz
          have i1 : (0 : Int) ≤ (p0 : Int) := by omega
          have i2 : (p0 : Int) ≤ (z : Int) := by omega
          have i3 : (z : Int) ≤ (s.size : Int) := by omega
          refine wp_region_later (by kernel_rfl) (by kernel_rfl) ?_
          repeat (go_big_quiet_step (first | (go_at_call 82; exact later_call (K.out _))))
          refine wpQuiet_nil ?_
          rintro w3 ⟨y, rfl⟩
          have HI3 : Hid (BkI b s w y.val u1 u3 (blanks0 p1 p0)) := Lib.hid ⟨HI2.out.1.below y.ok, HI2.out.2.below y.ok⟩
          clear K k0 c0 HI2
          generalize y.val = w3 at HI3 ⊢
          obtain ⟨mg, hmg⟩ : ∃ mg, mg = s.extract p0 z := ⟨_, rfl⟩
          have hms : mg.size = z - p0 := by rw [hmg, ByteArray.size_extract]; omega
          have hzm : z = p0 + mg.size := by omega
          have HMG := Lib.hid (show mg = s.extract p0 (p0 + mg.size) by rw [← hzm]; exact hmg)
          rw [← hmg]
          clear hmg hms
          subst hzm
          have HHd := Lib.hid (show Head (by_ s) s.size p1 p0 mg.size from ⟨HP1.out, HN1.out, HP0.out, HZ.out⟩)
          clear HP1 HN1 HP0 HZ i1 i2 i3
          by_cases hm0 : mg.size = 0
          · have hX : ∀ v, ¬ BlockOk (by_ s) s.size v := fun v => bad_margin (by have := HHd.out; rwa [hm0] at this) v
            have HX := Lib.hid (show u1 = false → by_ s 3 ≠ 45 ∧ ∀ v, ¬ BlockOk (by_ s) s.size v from fun h => ⟨HU1.out h, hX⟩)
            obtain rfl : mg = ⟨#[]⟩ := by
              cases mg with
              | mk d =>
                have : d.size = 0 := hm0
                rw [Array.eq_empty_of_size_eq_zero this]
            have HB1 := Lib.hid (HI3.out.1.isBad true)
            have c4 := HI3.out.1.1.c4
            have f4 := Blk.frozen HI3.out.1.1 4
            clear hX hm0
            go_wp2_with fail
            go_end0
            exact ⟨rfl, true, u1, 0, _, HB1.out, .inl ⟨rfl, HX.out⟩⟩
          · have hm1 : 1 ≤ mg.size := by omega
            have qe : (mg.toList == ([] : List UInt8)) = false := by
              cases mg with
              | mk d =>
                have : d.toList ≠ [] := fun h => hm0 (show d.size = 0 by simpa using congrArg List.length h)
                rw [ByteArray.toList_eq]
                simpa using this
            have qe2 : mg.toList.isEmpty = false := by
              cases hx : mg.toList with
              | nil => rw [hx] at qe; cases qe
              | cons a l => rfl
            clear hm0
            have hl0 : (blanks0 p1 p0).length ≤ p0 := by simp [blanks0]
            have HR0 := Lib.hid (show RunS s p1 p0 mg.size p0 (blanks0 p1 p0) from .refl)
            go_wp2_with fail
            go_loopw [2, 3] (fun t v wr => ∃ (a : Nat) (l : List UInt8) (u : Bool), t = .int .i64 a ∧ a ≤ s.size ∧ l.length ≤ a ∧ Hid (BkI b s w wr u v l) ∧ Hid (UnsOk s u) ∧ Hid (RunS s p1 p0 mg.size a l)) (fun t _ _ => s.size - (intOf t).toNat)
            case atStart => exact ⟨p0, _, u1, rfl, hp0, hl0, HI3, HU1, HR0⟩
            case round =>
              clear HI3 HU1 HR0 hl0
              obtain ⟨a, l, u, rfl, ha, hla, HI, HU, HR⟩ := hrel
              have c0 := HI.out.1.1.c0
              have E1 := Lib.hid (show stG s ⟨#[10]⟩ a = (decide (a < s.size) && by_ s a == 10) from stG1 s a 10 (by omega))
              have E2 := Lib.hid (show stG s mg a = true ↔ StM (by_ s) s.size p0 mg.size a from by
                have := stG_margin s p0 mg.size a hz2
                rwa [← HMG.out] at this)
              go_wp2_with fail
              refine (KS.out _ (by show 1 ≤ _; omega) a ha _).mono ?_
              rintro e5 w5 ⟨rfl, rfl⟩
              rcases hv1 : stG s ⟨#[10]⟩ a with _ | _
              all_goals
                have V1 := Lib.hid hv1
                clear hv1
              rotate_left
              · have hNl : Nl (by_ s) s.size a := by
                  have := V1.out
                  rw [E1.out] at this
                  simp only [Bool.and_eq_true, decide_eq_true_eq, beq_iff_eq] at this
                  exact this
                have HA := Lib.hid (show At1 s p0 mg.size a a from .inl ⟨hNl, rfl⟩)
                clear hNl E1 E2 V1
                obtain ⟨a1, ha1⟩ : ∃ a1, a1 = a := ⟨_, rfl⟩
                rw [← ha1] at HA
                have hla1 : l.length ≤ a1 := by omega
                have ha1s : a1 ≤ s.size := by omega
                have haa : a ≤ a1 := by omega
                subst ha1
                go_upto_block 6 with fail
                go_cut [2, 3] (fun s2 s3 wx => ∃ (q : Nat) (l' : List UInt8) (u' : Bool), s2 = .int .i64 q ∧ q ≤ s.size ∧ a1 ≤ q ∧ l'.length ≤ q ∧ Hid (BkI b s w wx u' s3 l') ∧ Hid (UnsOk s u') ∧ Hid (LnS s a1 q l l') ∧ Hid (q < s.size → by_ s q = 10))
                case first =>
                  have HI0 := HI
                  have HU0 := HU
                  clear c0 HI HU
                  go_wp2_with fail
                  go_loopw [2, 3] (fun t v wr => ∃ (k : Nat) (l' : List UInt8) (u' : Bool), t = .int .i64 k ∧ k ≤ s.size ∧ a1 ≤ k ∧ l'.length ≤ k ∧ Hid (BkI b s w wr u' v l') ∧ Hid (UnsOk s u') ∧ Hid (LnS s a1 k l l')) (fun t _ _ => s.size - (intOf t).toNat)
                  case atStart => exact ⟨a1, l, u, rfl, ha1s, Nat.le_refl _, hla1, HI0, HU0, Lib.hid (LnS.start ha1s)⟩
                  case round =>
                    clear HI0 HU0
                    obtain ⟨k, l', u', rfl, hk, hk1, hlk, HI, HU, HK⟩ := hrel
                    have c0 := HI.out.1.1.c0
                    by_cases hlt : k < s.size
                    · have z3 : (k : Int) < (s.size : Int) := by omega
                      have z4 : (0 : Int) ≤ (k : Int) := by omega
                      rcases h10 : ((by_ s k : Int) == 10) with _ | _
                      · have hne : by_ s k ≠ 10 := by simp at h10; omega
                        have HN := Lib.hid (HK.out.more hlt hne)
                        have q10 : (((s[k]'hlt).toNat : Int) != 10) = true := by rw [by_eq hlt]; simp; omega
                        clear hne h10
                        have HD := Lib.hid (by_eq hlt)
                        rcases u' with _ | _
                        · rcases h13 : ((by_ s k : Int) == 13) with _ | _
                          · rw [← by_eq hlt] at h13
                            have HM := Lib.hid (HI.out.unsC hbl (y := false) (x := false) rfl)
                            have c5 := HI.out.1.1.c5
                            have f5 := Blk.frozen HI.out.1.1 5
                            have hbs6 : w.heap.size ≤ (wr.setCell ⟨b, 5, none⟩ (.bool false)).heap.size := by
                              have := HI.out.1.2.size
                              simpa [World.setCell] using this
                            clear HI
                            go_upto_region 22 with fail
                            generalize wr.setCell ⟨b, 5, none⟩ (.bool false) = w6 at HM hbs6 ⊢
                            have c06 := HM.out.1.1.c0
                            clear c0 c5 f5
                            go_wp2_with (at_builtin; refine wpList_append_x _ rfl (.tmp 167) (.tmp 174) 54 rfl w.heap.size 5 i0 _ 1 1 Tryd.underlying54 hi hz hs0 hbb rfl (by omega) u3 l'.length _ rfl (HM.out.2.1.alloc _) (w6.heap.size + 1) (some ⟨w6.heap.size, 0, none⟩) 1 1 [.int .u8 (s[k]'hlt).toNat] rfl (Reads.ofCells (cs := #[.int .u8 (s[k]'hlt).toNat]) (heap_new1 _ _) rfl (by omega)) (by simp [Value.oneCell']) (.inr (by omega)) (by unfold maxLen; omega) (by omega) (by simp; omega) (w6.heap.size + 1) (by simp) ?_; intro g2 cap2 w7 hown2 hgrow2 hat2 hlt2)
                            have HP := Lib.hid (HM.out.push hbl (c := UInt8.ofNat (by_ s k)) (by rw [HD.out, u8_nat (by_lt s k)]) hown2 hgrow2)
                            clear hown2 hgrow2 hat2 HM
                            go_wp2_with fail
                            go_roundw
                            case rel => exact ⟨k + 1, _, false, by go_num, by omega, by omega, by simp; omega, HP, HU, HN⟩
                            case measure => simp [intOf]; omega
                          · rw [← by_eq hlt] at h13
                            have HM := Lib.hid (HI.out.unsC hbl (y := true) (x := true) rfl)
                            have c5 := HI.out.1.1.c5
                            have f5 := Blk.frozen HI.out.1.1 5
                            have hbs6 : w.heap.size ≤ (wr.setCell ⟨b, 5, none⟩ (.bool true)).heap.size := by
                              have := HI.out.1.2.size
                              simpa [World.setCell] using this
                            clear HI
                            go_upto_region 22 with fail
                            generalize wr.setCell ⟨b, 5, none⟩ (.bool true) = w6 at HM hbs6 ⊢
                            have c06 := HM.out.1.1.c0
                            clear c0 c5 f5
                            go_wp2_with (at_builtin; refine wpList_append_x _ rfl (.tmp 167) (.tmp 174) 54 rfl w.heap.size 5 i0 _ 1 1 Tryd.underlying54 hi hz hs0 hbb rfl (by omega) u3 l'.length _ rfl (HM.out.2.1.alloc _) (w6.heap.size + 1) (some ⟨w6.heap.size, 0, none⟩) 1 1 [.int .u8 (s[k]'hlt).toNat] rfl (Reads.ofCells (cs := #[.int .u8 (s[k]'hlt).toNat]) (heap_new1 _ _) rfl (by omega)) (by simp [Value.oneCell']) (.inr (by omega)) (by unfold maxLen; omega) (by omega) (by simp; omega) (w6.heap.size + 1) (by simp) ?_; intro g2 cap2 w7 hown2 hgrow2 hat2 hlt2)
                            have HP := Lib.hid (HM.out.push hbl (c := UInt8.ofNat (by_ s k)) (by rw [HD.out, u8_nat (by_lt s k)]) hown2 hgrow2)
                            clear hown2 hgrow2 hat2 HM
                            go_wp2_with fail
                            go_roundw
                            case rel => exact ⟨k + 1, _, true, by go_num, by omega, by omega, by simp; omega, HP, Lib.hid (UnsOk.yes s), HN⟩
                            case measure => simp [intOf]; omega
                        · skip
                          have HM := Lib.hid (HI.out.unsC hbl (y := true) (x := true) rfl)
                          have c5 := HI.out.1.1.c5
                          have f5 := Blk.frozen HI.out.1.1 5
                          have hbs6 : w.heap.size ≤ (wr.setCell ⟨b, 5, none⟩ (.bool true)).heap.size := by
                            have := HI.out.1.2.size
                            simpa [World.setCell] using this
                          clear HI
                          go_upto_region 22 with fail
                          generalize wr.setCell ⟨b, 5, none⟩ (.bool true) = w6 at HM hbs6 ⊢
                          have c06 := HM.out.1.1.c0
                          clear c0 c5 f5
                          go_wp2_with (at_builtin; refine wpList_append_x _ rfl (.tmp 167) (.tmp 174) 54 rfl w.heap.size 5 i0 _ 1 1 Tryd.underlying54 hi hz hs0 hbb rfl (by omega) u3 l'.length _ rfl (HM.out.2.1.alloc _) (w6.heap.size + 1) (some ⟨w6.heap.size, 0, none⟩) 1 1 [.int .u8 (s[k]'hlt).toNat] rfl (Reads.ofCells (cs := #[.int .u8 (s[k]'hlt).toNat]) (heap_new1 _ _) rfl (by omega)) (by simp [Value.oneCell']) (.inr (by omega)) (by unfold maxLen; omega) (by omega) (by simp; omega) (w6.heap.size + 1) (by simp) ?_; intro g2 cap2 w7 hown2 hgrow2 hat2 hlt2)
                          have HP := Lib.hid (HM.out.push hbl (c := UInt8.ofNat (by_ s k)) (by rw [HD.out, u8_nat (by_lt s k)]) hown2 hgrow2)
                          clear hown2 hgrow2 hat2 HM
                          go_wp2_with fail
                          go_roundw
                          case rel => exact ⟨k + 1, _, true, by go_num, by omega, by omega, by simp; omega, HP, Lib.hid (UnsOk.yes s), HN⟩
                          case measure => simp [intOf]; omega
                      · have he : by_ s k = 10 := by simp at h10; omega
                        have HE := Lib.hid (show k < s.size → by_ s k = 10 from fun _ => he)
                        have q10 : (((s[k]'hlt).toNat : Int) != 10) = false := by rw [by_eq hlt, he]; rfl
                        clear he h10
                        go_wp2_with fail
                        go_meet
                        exact ⟨k, l', u', rfl, hk, hk1, hlk, HI, HU, HK, HE⟩
                    · have z3 : ¬ (k : Int) < (s.size : Int) := by omega
                      have HE := Lib.hid (show k < s.size → by_ s k = 10 from fun h => absurd h hlt)
                      go_wp2_with fail
                      go_meet
                      exact ⟨k, l', u', rfl, hk, hk1, hlk, HI, HU, HK, HE⟩
                case rest =>
                  obtain ⟨q, l', u', rfl, hq, hq1, hlq, HIq, HUq, HLq, HEq⟩ := hcut
                  obtain ⟨w9, hw9⟩ : ∃ w9, w9 = wc := ⟨_, rfl⟩
                  subst hw9
                  clear HI c0 HU
                  have c0 := HIq.out.1.1.c0
                  by_cases hlt : q < s.size
                  · have z3 : ¬ (s.size : Int) ≤ (q : Int) := by omega
                    have HRN := Lib.hid (run_on HR.out HA.out HLq.out hlt (HEq.out hlt))
                    have hbs : w.heap.size ≤ w9.heap.size := HIq.out.1.2.size
                    go_wp2_with (at_builtin; refine wpList_append_x _ rfl (.tmp 188) (.tmp 189) 54 rfl w.heap.size 5 i0 _ 1 1 Tryd.underlying54 hi hz hs0 hbb rfl (by omega) u3 l'.length _ rfl (HIq.out.2.1.alloc _) (w9.heap.size + 1) (some ⟨w9.heap.size, 0, none⟩) 1 1 [.int .u8 10] rfl (Reads.ofCells (cs := #[.int .u8 10]) (heap_new1 _ _) rfl (by omega)) (by simp [Value.oneCell']) (.inr (by omega)) (by unfold maxLen; omega) (by omega) (by simp; omega) (w9.heap.size + 1) (by simp) ?_; intro g2 cap2 w7 hown2 hgrow2 hat2 hlt2)
                    have HP := Lib.hid (HIq.out.push hbl (c := 10) rfl hown2 hgrow2)
                    clear hown2 hgrow2 hat2
                    go_wp2_with fail
                    go_roundw
                    case rel => exact ⟨q + 1, _, u', by go_num, by omega, by simp; omega, HP, HUq, HRN⟩
                    case measure => simp [intOf]; omega
                  · have z3 : (s.size : Int) ≤ (q : Int) := by omega
                    have HX := Lib.hid (show u' = false → by_ s 3 ≠ 45 ∧ ∀ v, ¬ BlockOk (by_ s) s.size v from fun h => by
                      obtain ⟨n1, n2, n3⟩ := run_eof HA.out HLq.out (by omega)
                      exact ⟨HUq.out h, bad_eof HHd.out HR.out n1 n2 n3⟩)
                    have HB1 := Lib.hid (HIq.out.1.isBad true)
                    have c4 := HIq.out.1.1.c4
                    have f4 := Blk.frozen HIq.out.1.1 4
                    go_wp2_with fail
                    go_end0
                    exact ⟨rfl, true, u', 0, _, HB1.out, .inl ⟨rfl, HX.out⟩⟩
              · have hnNl : ¬ Nl (by_ s) s.size a := by
                  intro h
                  have := V1.out
                  rw [E1.out] at this
                  simp [h.1, h.2] at this
                have HnN := Lib.hid hnNl
                clear hnNl E1 V1
                go_wp2_with fail
                refine (KS.out _ (by omega) a ha _).mono ?_
                rintro e6 w6 ⟨rfl, rfl⟩
                rcases hv2 : stG s mg a with _ | _
                · have hnS : ¬ StM (by_ s) s.size p0 mg.size a := fun h => by
                    rw [E2.out.2 h] at hv2
                    cases hv2
                  have HnS := Lib.hid hnS
                  clear hnS hv2 E2
                  obtain ⟨z, hz⟩ := upto_ex wsB s s.size a ha (by omega)
                  have hz3 := hz.2.1
                  have HZ := Lib.hid hz
                  clear hz
                  go_wp2_with fail
                  refine (blanks_at b s 0 a z _ _ _ hs HZ.out _ HI.out.1.1).mono ?_
                  rintro e7 w7 ⟨rfl, hb7⟩
                  have HI7 : Hid (BkI b s w w7 u u3 l) := Lib.hid ⟨HI.out.1.below hb7, HI.out.2.below hb7⟩
                  have c07 := HI7.out.1.1.c0
                  have E3 := Lib.hid (stG3 s z)
                  clear hb7 HI c0
                  go_wp2_with fail
                  refine (KS.out _ (by show 3 ≤ _; omega) z hz3 _).mono ?_
                  rintro e8 w8 ⟨rfl, rfl⟩
                  rw [E3.out]
                  rcases hv3 : bars (by_ s) s.size z with _ | _
                  · have HX := Lib.hid (show u = false → by_ s 3 ≠ 45 ∧ ∀ v, ¬ BlockOk (by_ s) s.size v from fun h => ⟨HU.out h, bad_end HHd.out HR.out HnN.out HnS.out HZ.out hv3⟩)
                    have HB1 := Lib.hid (HI7.out.1.isBad true)
                    have c4 := HI7.out.1.1.c4
                    have f4 := Blk.frozen HI7.out.1.1 4
                    clear hv3
                    go_wp2_with fail
                    go_end0
                    exact ⟨rfl, true, u, 0, _, HB1.out, .inl ⟨rfl, HX.out⟩⟩
                  · have HX := Lib.hid (show u = false → by_ s 3 ≠ 45 ∧ BlockOk (by_ s) s.size l from fun h => ⟨HU.out h, p1, p0, mg.size, a, z, HHd.out, hm1, HR.out, HnN.out, HnS.out, HZ.out, hv3⟩)
                    clear hv3
                    obtain ⟨A, cc, rfl, hcv⟩ := HI7.out.2.conv
                    have wz : IntKind.i64.wrap ((z : Int) + 3) = ((z + 3 : Nat) : Int) := by rw [IntWalk.i64_in _ (by omega)]; omega
                    go_wp2_with (simp only [hcv])
                    refine (add_any b s false u 4 5 ⟨#[]⟩ ⟨l.toArray⟩ 0 (z + 3) _ HI7.out.1.1).mono ?_
                    rintro e9 w9 ⟨rfl, g9, cap9, hL9, hT9, hG9⟩
                    have H9 := Lib.hid (And.intro hL9 (And.intro hT9 hG9))
                    clear hL9 hT9 hG9
                    go_wp2_with fail
                    go_end0
                    exact ⟨rfl, false, u, z + 3, _, ⟨H9.out.1, grown_trans HI7.out.1.2 H9.out.2.2⟩, .inr ⟨rfl, g9, cap9, l, rfl, H9.out.2.1, HX.out⟩⟩
                · have hS := E2.out.1 hv2
                  have hSs := hS.1
                  have HA := Lib.hid (show At1 s p0 mg.size a (a + mg.size) from .inr ⟨HnN.out, hS, rfl⟩)
                  have wm : IntKind.i64.wrap ((a : Int) + (mg.size : Int)) = (a : Int) + (mg.size : Int) := IntWalk.i64_in _ (by omega)
                  clear hS hv2 E2
                  go_upto_block 6 with fail
                  obtain ⟨a1, ha1⟩ : ∃ a1, a1 = a + mg.size := ⟨_, rfl⟩
                  rw [← ha1] at HA
                  have hla1 : l.length ≤ a1 := by omega
                  have ha1s : a1 ≤ s.size := by omega
                  have haa : a ≤ a1 := by omega
                  rw [show (a : Int) + (mg.size : Int) = (a1 : Int) by omega]
                  clear wm hSs ha1
                  go_cut [2, 3] (fun s2 s3 wx => ∃ (q : Nat) (l' : List UInt8) (u' : Bool), s2 = .int .i64 q ∧ q ≤ s.size ∧ a1 ≤ q ∧ l'.length ≤ q ∧ Hid (BkI b s w wx u' s3 l') ∧ Hid (UnsOk s u') ∧ Hid (LnS s a1 q l l') ∧ Hid (q < s.size → by_ s q = 10))
                  case first =>
                    have HI0 := HI
                    have HU0 := HU
                    clear c0 HI HU
                    go_wp2_with fail
                    go_loopw [2, 3] (fun t v wr => ∃ (k : Nat) (l' : List UInt8) (u' : Bool), t = .int .i64 k ∧ k ≤ s.size ∧ a1 ≤ k ∧ l'.length ≤ k ∧ Hid (BkI b s w wr u' v l') ∧ Hid (UnsOk s u') ∧ Hid (LnS s a1 k l l')) (fun t _ _ => s.size - (intOf t).toNat)
                    case atStart => exact ⟨a1, l, u, rfl, ha1s, Nat.le_refl _, hla1, HI0, HU0, Lib.hid (LnS.start ha1s)⟩
                    case round =>
                      clear HI0 HU0
                      obtain ⟨k, l', u', rfl, hk, hk1, hlk, HI, HU, HK⟩ := hrel
                      have c0 := HI.out.1.1.c0
                      by_cases hlt : k < s.size
                      · have z3 : (k : Int) < (s.size : Int) := by omega
                        have z4 : (0 : Int) ≤ (k : Int) := by omega
                        rcases h10 : ((by_ s k : Int) == 10) with _ | _
                        · have hne : by_ s k ≠ 10 := by simp at h10; omega
                          have HN := Lib.hid (HK.out.more hlt hne)
                          have q10 : (((s[k]'hlt).toNat : Int) != 10) = true := by rw [by_eq hlt]; simp; omega
                          clear hne h10
                          have HD := Lib.hid (by_eq hlt)
                          rcases u' with _ | _
                          · rcases h13 : ((by_ s k : Int) == 13) with _ | _
                            · rw [← by_eq hlt] at h13
                              have HM := Lib.hid (HI.out.unsC hbl (y := false) (x := false) rfl)
                              have c5 := HI.out.1.1.c5
                              have f5 := Blk.frozen HI.out.1.1 5
                              have hbs6 : w.heap.size ≤ (wr.setCell ⟨b, 5, none⟩ (.bool false)).heap.size := by
                                have := HI.out.1.2.size
                                simpa [World.setCell] using this
                              clear HI
                              go_upto_region 22 with fail
                              generalize wr.setCell ⟨b, 5, none⟩ (.bool false) = w6 at HM hbs6 ⊢
                              have c06 := HM.out.1.1.c0
                              clear c0 c5 f5
                              go_wp2_with (at_builtin; refine wpList_append_x _ rfl (.tmp 167) (.tmp 174) 54 rfl w.heap.size 5 i0 _ 1 1 Tryd.underlying54 hi hz hs0 hbb rfl (by omega) u3 l'.length _ rfl (HM.out.2.1.alloc _) (w6.heap.size + 1) (some ⟨w6.heap.size, 0, none⟩) 1 1 [.int .u8 (s[k]'hlt).toNat] rfl (Reads.ofCells (cs := #[.int .u8 (s[k]'hlt).toNat]) (heap_new1 _ _) rfl (by omega)) (by simp [Value.oneCell']) (.inr (by omega)) (by unfold maxLen; omega) (by omega) (by simp; omega) (w6.heap.size + 1) (by simp) ?_; intro g2 cap2 w7 hown2 hgrow2 hat2 hlt2)
                              have HP := Lib.hid (HM.out.push hbl (c := UInt8.ofNat (by_ s k)) (by rw [HD.out, u8_nat (by_lt s k)]) hown2 hgrow2)
                              clear hown2 hgrow2 hat2 HM
                              go_wp2_with fail
                              go_roundw
                              case rel => exact ⟨k + 1, _, false, by go_num, by omega, by omega, by simp; omega, HP, HU, HN⟩
                              case measure => simp [intOf]; omega
                            · rw [← by_eq hlt] at h13
                              have HM := Lib.hid (HI.out.unsC hbl (y := true) (x := true) rfl)
                              have c5 := HI.out.1.1.c5
                              have f5 := Blk.frozen HI.out.1.1 5
                              have hbs6 : w.heap.size ≤ (wr.setCell ⟨b, 5, none⟩ (.bool true)).heap.size := by
                                have := HI.out.1.2.size
                                simpa [World.setCell] using this
                              clear HI
                              go_upto_region 22 with fail
                              generalize wr.setCell ⟨b, 5, none⟩ (.bool true) = w6 at HM hbs6 ⊢
                              have c06 := HM.out.1.1.c0
                              clear c0 c5 f5
                              go_wp2_with (at_builtin; refine wpList_append_x _ rfl (.tmp 167) (.tmp 174) 54 rfl w.heap.size 5 i0 _ 1 1 Tryd.underlying54 hi hz hs0 hbb rfl (by omega) u3 l'.length _ rfl (HM.out.2.1.alloc _) (w6.heap.size + 1) (some ⟨w6.heap.size, 0, none⟩) 1 1 [.int .u8 (s[k]'hlt).toNat] rfl (Reads.ofCells (cs := #[.int .u8 (s[k]'hlt).toNat]) (heap_new1 _ _) rfl (by omega)) (by simp [Value.oneCell']) (.inr (by omega)) (by unfold maxLen; omega) (by omega) (by simp; omega) (w6.heap.size + 1) (by simp) ?_; intro g2 cap2 w7 hown2 hgrow2 hat2 hlt2)
                              have HP := Lib.hid (HM.out.push hbl (c := UInt8.ofNat (by_ s k)) (by rw [HD.out, u8_nat (by_lt s k)]) hown2 hgrow2)
                              clear hown2 hgrow2 hat2 HM
                              go_wp2_with fail
                              go_roundw
                              case rel => exact ⟨k + 1, _, true, by go_num, by omega, by omega, by simp; omega, HP, Lib.hid (UnsOk.yes s), HN⟩
                              case measure => simp [intOf]; omega
                          · skip
                            have HM := Lib.hid (HI.out.unsC hbl (y := true) (x := true) rfl)
                            have c5 := HI.out.1.1.c5
                            have f5 := Blk.frozen HI.out.1.1 5
                            have hbs6 : w.heap.size ≤ (wr.setCell ⟨b, 5, none⟩ (.bool true)).heap.size := by
                              have := HI.out.1.2.size
                              simpa [World.setCell] using this
                            clear HI
                            go_upto_region 22 with fail
                            generalize wr.setCell ⟨b, 5, none⟩ (.bool true) = w6 at HM hbs6 ⊢
                            have c06 := HM.out.1.1.c0
                            clear c0 c5 f5
                            go_wp2_with (at_builtin; refine wpList_append_x _ rfl (.tmp 167) (.tmp 174) 54 rfl w.heap.size 5 i0 _ 1 1 Tryd.underlying54 hi hz hs0 hbb rfl (by omega) u3 l'.length _ rfl (HM.out.2.1.alloc _) (w6.heap.size + 1) (some ⟨w6.heap.size, 0, none⟩) 1 1 [.int .u8 (s[k]'hlt).toNat] rfl (Reads.ofCells (cs := #[.int .u8 (s[k]'hlt).toNat]) (heap_new1 _ _) rfl (by omega)) (by simp [Value.oneCell']) (.inr (by omega)) (by unfold maxLen; omega) (by omega) (by simp; omega) (w6.heap.size + 1) (by simp) ?_; intro g2 cap2 w7 hown2 hgrow2 hat2 hlt2)
                            have HP := Lib.hid (HM.out.push hbl (c := UInt8.ofNat (by_ s k)) (by rw [HD.out, u8_nat (by_lt s k)]) hown2 hgrow2)
                            clear hown2 hgrow2 hat2 HM
                            go_wp2_with fail
                            go_roundw
                            case rel => exact ⟨k + 1, _, true, by go_num, by omega, by omega, by simp; omega, HP, Lib.hid (UnsOk.yes s), HN⟩
                            case measure => simp [intOf]; omega
                        · have he : by_ s k = 10 := by simp at h10; omega
                          have HE := Lib.hid (show k < s.size → by_ s k = 10 from fun _ => he)
                          have q10 : (((s[k]'hlt).toNat : Int) != 10) = false := by rw [by_eq hlt, he]; rfl
                          clear he h10
                          go_wp2_with fail
                          go_meet
                          exact ⟨k, l', u', rfl, hk, hk1, hlk, HI, HU, HK, HE⟩
                      · have z3 : ¬ (k : Int) < (s.size : Int) := by omega
                        have HE := Lib.hid (show k < s.size → by_ s k = 10 from fun h => absurd h hlt)
                        go_wp2_with fail
                        go_meet
                        exact ⟨k, l', u', rfl, hk, hk1, hlk, HI, HU, HK, HE⟩
                  case rest =>
                    obtain ⟨q, l', u', rfl, hq, hq1, hlq, HIq, HUq, HLq, HEq⟩ := hcut
                    obtain ⟨w9, hw9⟩ : ∃ w9, w9 = wc := ⟨_, rfl⟩
                    subst hw9
                    clear HI c0 HU
                    have c0 := HIq.out.1.1.c0
                    by_cases hlt : q < s.size
                    · have z3 : ¬ (s.size : Int) ≤ (q : Int) := by omega
                      have HRN := Lib.hid (run_on HR.out HA.out HLq.out hlt (HEq.out hlt))
                      have hbs : w.heap.size ≤ w9.heap.size := HIq.out.1.2.size
                      go_wp2_with (at_builtin; refine wpList_append_x _ rfl (.tmp 188) (.tmp 189) 54 rfl w.heap.size 5 i0 _ 1 1 Tryd.underlying54 hi hz hs0 hbb rfl (by omega) u3 l'.length _ rfl (HIq.out.2.1.alloc _) (w9.heap.size + 1) (some ⟨w9.heap.size, 0, none⟩) 1 1 [.int .u8 10] rfl (Reads.ofCells (cs := #[.int .u8 10]) (heap_new1 _ _) rfl (by omega)) (by simp [Value.oneCell']) (.inr (by omega)) (by unfold maxLen; omega) (by omega) (by simp; omega) (w9.heap.size + 1) (by simp) ?_; intro g2 cap2 w7 hown2 hgrow2 hat2 hlt2)
                      have HP := Lib.hid (HIq.out.push hbl (c := 10) rfl hown2 hgrow2)
                      clear hown2 hgrow2 hat2
                      go_wp2_with fail
                      go_roundw
                      case rel => exact ⟨q + 1, _, u', by go_num, by omega, by simp; omega, HP, HUq, HRN⟩
                      case measure => simp [intOf]; omega
                    · have z3 : (s.size : Int) ≤ (q : Int) := by omega
                      have HX := Lib.hid (show u' = false → by_ s 3 ≠ 45 ∧ ∀ v, ¬ BlockOk (by_ s) s.size v from fun h => by
                        obtain ⟨n1, n2, n3⟩ := run_eof HA.out HLq.out (by omega)
                        exact ⟨HUq.out h, bad_eof HHd.out HR.out n1 n2 n3⟩)
                      have HB1 := Lib.hid (HIq.out.1.isBad true)
                      have c4 := HIq.out.1.1.c4
                      have f4 := Blk.frozen HIq.out.1.1 4
                      go_wp2_with fail
                      go_end0
                      exact ⟨rfl, true, u', 0, _, HB1.out, .inl ⟨rfl, HX.out⟩⟩
      · have HX := Lib.hid (show u1 = false → by_ s 3 ≠ 45 ∧ ∀ v, ¬ BlockOk (by_ s) s.size v from fun h => ⟨HU1.out h, bad_head HP1.out hn1⟩)
        have HB1 := Lib.hid (HI1.out.isBad true)
        by_cases hlt : p1 < s.size
        · have z0 : ¬ (s.size : Int) ≤ (p1 : Int) := by omega
          have z1 : (0 : Int) ≤ (p1 : Int) := by omega
          have z2 : (p1 : Int) < (s.size : Int) := by omega
          have q10 : (((s[p1]'hlt).toNat : Int) != 10) = true := by
            rw [by_eq hlt]
            simp
            intro h
            exact hn1 ⟨hlt, by omega⟩
          clear hn1
          go_wp2_with fail
          go_end0
          exact ⟨rfl, true, u1, 0, _, HB1.out, .inl ⟨rfl, HX.out⟩⟩
        · have z0 : (s.size : Int) ≤ (p1 : Int) := by omega
          clear hn1
          go_wp2_with fail
          go_end0
          exact ⟨rfl, true, u1, 0, _, HB1.out, .inl ⟨rfl, HX.out⟩⟩
end Go.Proofs.YtpgmnggicmbacaaDoor
