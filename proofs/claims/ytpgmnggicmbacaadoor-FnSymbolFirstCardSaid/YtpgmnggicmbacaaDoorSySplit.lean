/-
  lineSplit: the lines of a text that begins with a slash: the first line begins with a slash.
-/
import Derived.Test.YtpgmnggicmbacaaDoorSyStrip
import Derived.Test.YtpgmnggicmbacaaDoorSyEbuf
namespace Go.Proofs.YtpgmnggicmbacaaDoor
open Go.Shelf Go.RowKit
set_option linter.unusedVariables false
set_option linter.unusedSimpArgs false

/-- The lines so far: the first begins with a slash, or is being read. -/
def FirstL (pos : Nat) (acc : List UInt8) (out : List Value) : Prop :=
  (out = [] → (pos = 0 ∧ acc = []) ∨ acc.head? = some 47) ∧ (∀ x ∈ out, ∃ t, x = Value.string t) ∧ (∀ x r, out = x :: r → ∃ t, x = Value.string t ∧ 0 < t.size ∧ by_ t 0 = 47)
theorem head_47 {acc : List UInt8} (h : acc.head? = some 47) : 0 < (⟨acc.toArray⟩ : ByteArray).size ∧ by_ ⟨acc.toArray⟩ 0 = 47 := by
  cases acc with
  | nil => cases h
  | cons x l =>
    simp at h
    subst h
    exact ⟨by simp [ByteArray.size], rfl⟩
theorem FirstL.cut {pos pos' : Nat} {acc : List UInt8} {out : List Value} {t : ByteArray} (h : FirstL pos acc out) (hp : 0 < pos) (ht : Sl ⟨acc.toArray⟩ t) : FirstL pos' [] (out ++ [.string t]) := by
  obtain ⟨h1, h2, h3⟩ := h
  refine ⟨fun e => by simp at e, fun x hx => ?_, fun x r e => ?_⟩
  · rcases List.mem_append.1 hx with hx | hx
    · exact h2 x hx
    · exact ⟨t, by simpa using hx⟩
  · cases out with
    | nil =>
      rcases h1 rfl with ⟨g, -⟩ | g
      · omega
      · obtain ⟨a, b⟩ := head_47 g
        obtain ⟨c, d⟩ := ht.2 a b
        simp at e
        exact ⟨t, e.1.symm, c, d⟩
    | cons y l =>
      simp at e
      obtain ⟨e1, -⟩ := e
      subst e1
      exact h3 _ _ rfl
theorem FirstL.on {pos pos' : Nat} {acc : List UInt8} {out : List Value} {bs : List UInt8} (h : FirstL pos acc out) (hb : pos = 0 → bs.head? = some 47) : FirstL pos' (acc ++ bs) out := by
  obtain ⟨h1, h2, h3⟩ := h
  refine ⟨fun e => .inr ?_, h2, h3⟩
  rcases h1 e with ⟨g1, g2⟩ | g
  · rw [g2, List.nil_append]
    exact hb g1
  · cases acc with
    | nil => cases g
    | cons x l => simpa using g
theorem dec_47 {s : ByteArray} (h : 0 < s.size) (hb : by_ s 0 = 47) : (Utf8.decode s 0).1 = 47 := by
  have h1 := (peek_by h (by omega)).1
  unfold peekR at h1
  rw [if_pos h, hb] at h1
  omega
theorem FirstL.head {pos : Nat} {acc : List UInt8} {out : List Value} (h : FirstL pos acc out) {n : Nat} (hn : out.length = n + 1) : ∃ t l, out = .string t :: l ∧ l.length = n ∧ (0 < t.size ∧ by_ t 0 = 47) ∧ ∀ x ∈ out, ∃ t, x = Value.string t := by
  cases out with
  | nil => cases hn
  | cons x l =>
    obtain ⟨t, rfl, h1⟩ := h.2.2 x l rfl
    exact ⟨t, l, rfl, by simpa using hn, h1, h.2.1⟩
/-- What lineSplit answers. -/
def SpPost (w : World) (e : Ending) (w' : World) : Prop :=
  (∃ (n g cap : Nat) (t : ByteArray) (l : List Value), e = .returned (.slice (some ⟨g, 0, none⟩) (n + 1) cap) ∧ n ≤ 1000004 ∧ w.heap.size ≤ g ∧ (0 < t.size ∧ by_ t 0 = 47) ∧ l.length = n ∧ (∀ x ∈ (Value.string t :: l), ∃ t, x = Value.string t) ∧
    w'.ownsRow w.heap.size 9 1 (.slice (some ⟨g, 0, none⟩) (n + 1) cap) (n + 1) (.string t :: l)) ∧ Below w.heap.size w w'
/-- What stands at the head of a round. -/
def SpI (w wr : World) (pos : Nat) (u : Value) : Prop :=
  ∃ (acc : List UInt8) (out : List Value), Lib.IsBuffer 86 5 w.heap.size w.heap.size (Lib.byteCells acc) wr ∧ Below w.heap.size w wr ∧ acc.length ≤ 4 * pos ∧ out.length ≤ pos ∧ wr.ownsRow w.heap.size 9 1 u out.length out ∧ FirstL pos acc out
theorem sp_feed {w W1 w2 W4 : World} {s : ByteArray} {pos pos' g2 cap2 : Nat} {u : Value} {acc : List UInt8} {out : List Value} {t : ByteArray} {O : Obj} (hB1 : Lib.IsBuffer 86 5 w.heap.size w.heap.size (Lib.byteCells acc) W1) (hu1 : W1.ownsRow w.heap.size 9 1 u out.length out)
    (hbw : Below w.heap.size w W1) (hi : W1.heap[w.heap.size + 1]? = some (.stringIter s pos')) (hl : out.length ≤ pos) (hp : pos < pos') (hF : FirstL pos acc out) (hp0 : 0 < pos) (hst : Sl ⟨acc.toArray⟩ t)
    (hown2 : w2.ownsRow w.heap.size 9 1 (.slice (some ⟨g2, 0, none⟩) (out.length + 1) cap2) (out.length + 1) (out ++ [.string t])) (hgrow2 : (W1.alloc O).grownBy w2 u.ownBlock)
    (g4 : Lib.IsBuffer 86 5 w.heap.size w.heap.size [] W4) (b4 : Below w.heap.size w2 W4) (k4 : Lib.OthersKept 5 (some w.heap.size) w2 W4) :
    SpI w W4 pos' (.slice (some ⟨g2, 0, none⟩) (out.length + 1) cap2) ∧ W4.heap[w.heap.size + 1]? = some (.stringIter s pos') := by
  have hs1 := hbw.size
  have hB2 : Lib.IsBuffer 86 5 w.heap.size w.heap.size (Lib.byteCells acc) w2 := buf_grown (hB1.alloc O) (World.ownsRow.alloc hu1 O) (by decide) (by decide) hgrow2
  have hlt : w.heap.size + 1 < W1.heap.size := (Array.getElem?_eq_some_iff.1 hi).1
  have hi2 : w2.heap[w.heap.size + 1]? = some (.stringIter s pos') := by
    have ha : (W1.alloc O).heap[w.heap.size + 1]? = some (.stringIter s pos') := (Below.heap_alloc W1 O (w.heap.size + 1) hlt).trans hi
    exact (hgrow2.block (w.heap.size + 1) (Array.getElem?_eq_some_iff.1 ha).1 (fun e => own_iter_ne hu1 hi e.symm)).trans ha
  have hb2 : Below w.heap.size w w2 := (hbw.alloc hs1 O).grown hgrow2 (by simp; exact Nat.le_succ_of_le hs1) (fun k hk => (hu1.lt k hk).1)
  refine ⟨⟨[], out ++ [.string t], g4, hb2.trans b4, by simp, by simp; omega, ?_, hF.cut hp0 hst⟩, k4.iter hi2 (by omega)⟩
  have := row_kept hB2 hown2 (by decide) (by decide) k4
  simpa using this
theorem sp_on {w W1 : World} {s : ByteArray} {pos pos' : Nat} {u : Value} {l : List UInt8} {out : List Value} (hB1 : Lib.IsBuffer 86 5 w.heap.size w.heap.size (Lib.byteCells l) W1) (hu1 : W1.ownsRow w.heap.size 9 1 u out.length out)
    (hbw : Below w.heap.size w W1) (hi : W1.heap[w.heap.size + 1]? = some (.stringIter s pos')) (hl : out.length ≤ pos) (hp : pos < pos') (hll : l.length ≤ 4 * pos') (hF : FirstL pos' l out) :
    SpI w W1 pos' u ∧ W1.heap[w.heap.size + 1]? = some (.stringIter s pos') :=
  ⟨⟨l, out, hB1, hbw, hll, by omega, hu1, hF⟩, hi⟩
/-- Something is laid: buffer, row and iterator stay. -/
theorem sp_old {w W1 W3 : World} {s : ByteArray} {p : Nat} {u : Value} {acc : List UInt8} {out : List Value} (hB1 : Lib.IsBuffer 86 5 w.heap.size w.heap.size (Lib.byteCells acc) W1) (hu1 : W1.ownsRow w.heap.size 9 1 u out.length out)
    (hbw : Below w.heap.size w W1) (hi : W1.heap[w.heap.size + 1]? = some (.stringIter s p)) (hb : Below W1.heap.size W1 W3) :
    Lib.IsBuffer 86 5 w.heap.size w.heap.size (Lib.byteCells acc) W3 ∧ W3.ownsRow w.heap.size 9 1 u out.length out ∧ Below w.heap.size w W3 ∧ W3.heap[w.heap.size + 1]? = some (.stringIter s p) :=
  ⟨hB1.old hb, hu1.kept (grown_below hb none) (by cases hq : u.ownBlock <;> simp), hbw.trans (hb.mono hbw.size), (hb.block _ (Array.getElem?_eq_some_iff.1 hi).1).trans hi⟩
set_option maxRecDepth 100000 in
set_option maxHeartbeats 3200000 in
theorem split_any (s : ByteArray) (hs : s.size ≤ 1000000) (h0 : 0 < s.size) (hb0 : by_ s 0 = 47) (w : World) : Calls Tryd.prog 73 #[.string s, .int .i64 0] w (SpPost w) := by
  obtain ⟨i1, hi1, hz1, hsz1, hb1⟩ := info_parts info_str
  have HB0 := Lib.hid hb0
  clear hb0
  go_enter Tryd.func73, Tryd.ntmps73
  go_wp2_with fail
  go_loopw [5, 8] (fun u _ wr => ∃ pos : Nat, pos ≤ s.size + 4 ∧ Hid (SpI w wr pos u) ∧ wr.heap[w.heap.size + 1]? = some (.stringIter s pos)) (fun _ _ wr => s.size - wr.iterPos (w.heap.size + 1))
  case atStart =>
    refine ⟨0, by omega, Lib.hid ⟨[], [], (Lib.fresh_isBuffer 86 5 w).alloc _, ((Below.refl _ w).alloc (Nat.le_refl _) _).alloc (by simp) _, by simp, by simp, World.ownsRow_nil _ _ _ _, ⟨fun _ => .inl ⟨rfl, rfl⟩, fun x h => (by cases h), fun x r h => (by cases h)⟩⟩, ?_⟩
    have := World.iter_heap (w.alloc (.cells #[.slice none 0 0, .int .i64 0, .int .i8 0] 86)) s 0
    simpa using this
  case round =>
    obtain ⟨pos, hp4, HI, hit⟩ := hrel
    have hsz : w.heap.size + 1 < wr.heap.size := (Array.getElem?_eq_some_iff.1 hit).1
    obtain ⟨acc, out, h1, h2, h3, h4, h5, h6⟩ := HI.out
    have HF := Lib.hid h6
    clear h6
    by_cases hp : pos < s.size
    · have hnx : ∀ ty, (Instr.next (.pointer (some ⟨w.heap.size + 1, 0, none⟩)) true ty).run Tryd.prog wr = _ := fun ty => Lib.run_next_any_at wr (w.heap.size + 1) s pos ty hit hp
      have hwd := width_pos s pos hp
      have hwl := width_le s pos
      have hd1 := decode_le s pos
      have HI2 := Lib.hid (h1.iterAt hit (pos + (Utf8.decode s pos).2))
      have hit2 := Lib.hid (Lib.iterAt_heap wr (w.heap.size + 1) s pos (pos + (Utf8.decode s pos).2) hit)
      have hbw2 := Lib.hid (Lib.below_iterAt h2 (k := w.heap.size + 1) (by omega) s (pos + (Utf8.decode s pos).2))
      have hrow2 := Lib.hid (row_iter h5 hit (pos + (Utf8.decode s pos).2))
      have hsz2 : w.heap.size ≤ (wr.iterAt (w.heap.size + 1) s (pos + (Utf8.decode s pos).2)).heap.size := by rw [Lib.iterAt_size]; omega
      have HIT := Lib.hid hit
      have HP0 := Lib.hid (fun e : pos = 0 => show (Utf8.decode s pos).1 = 47 by rw [e]; exact dec_47 h0 HB0.out)
      clear h1 h2 h5 HI
      by_cases h10 : ((Utf8.decode s pos).1 : Int) = 10
      · have q1 : (((Utf8.decode s pos).1 : Int) == 10) = true := by simpa using h10
        have hp0 : 0 < pos := by
          rcases Nat.eq_zero_or_pos pos with hz | hz
          · have := HP0.out hz
            omega
          · exact hz
        go_wp2_with fail
        refine (buf_string w.heap.size w.heap.size acc _ HI2.out).mono ?_
        rintro e2 w2 ⟨rfl, n2, rfl⟩
        obtain ⟨g1, g2, g3, g4⟩ := sp_old HI2.out hrow2.out hbw2.out hit2.out (below_drewB (Below.refl _ _) n2)
        have HB1 := Lib.hid g1
        have HU1 := Lib.hid g2
        have HW1 := Lib.hid g3
        have HI1 := Lib.hid g4
        clear g1 g2 g3 g4 hit hnx HI2 hit2 hbw2 hrow2 hsz2
        generalize (wr.iterAt (w.heap.size + 1) s (pos + (Utf8.decode s pos).2)).drewN n2 = W1 at HB1 HU1 HW1 HI1 ⊢
        go_wp2_with fail
        refine (strip_any ⟨acc.toArray⟩ (show acc.toArray.size ≤ _ by simp; omega) _).mono ?_
        rintro e3 W3 ⟨⟨t, rfl, hst⟩, hb3⟩
        have HST := Lib.hid hst
        obtain ⟨g1, g2, g3, g4⟩ := sp_old HB1.out HU1.out HW1.out HI1.out hb3
        have HB3 := Lib.hid g1
        have HU3 := Lib.hid g2
        have HW3 := Lib.hid g3
        have HI3 := Lib.hid g4
        have hW3 : w.heap.size ≤ W3.heap.size := g3.size
        clear g1 g2 g3 g4 hst hb3 HB1 HU1 HW1 HI1
        go_wp2_with (first
          | (at_builtin; refine wpList_append_x _ rfl (.tmp 16) (.tmp 20) 69 rfl w.heap.size 9 i1 _ 1 16 Tryd.underlying69 hi1 hz1 hsz1 hb1 rfl (by omega) u5 out.length _ rfl (World.ownsRow.alloc HU3.out _) (W3.heap.size + 1) (some ⟨W3.heap.size, 0, none⟩) 1 1 [.string t] rfl (Reads.ofBlock (cs := #[.string t]) (heap_alloc_new _ _) rfl (by omega)) (by simp [Value.oneCell']) (.inr (by omega)) (by unfold maxLen; omega) (by omega) (by simp; omega) (W3.heap.size + 1) (by simp) ?_; intro g2 cap2 w2 hown2 hgrow2 hat2 hlt2; have hB2 := buf_grown (HB3.out.alloc _) (World.ownsRow.alloc HU3.out _) (by decide) (by decide) hgrow2)
          | (go_at_call 85; refine (buf_reset w.heap.size w.heap.size _ w2 hB2).mono ?_; rintro e4 W4 ⟨rfl, g4, b4, k4⟩))
        have HN := Lib.hid (sp_feed HB3.out HU3.out HW3.out HI3.out h4 (by omega) HF.out hp0 HST.out hown2 hgrow2 g4 b4 k4)
        refine ⟨⟨pos + (Utf8.decode s pos).2, by omega, Lib.hid HN.out.1, HN.out.2⟩, ?_⟩
        simp only [World.iterPos, HN.out.2, HIT.out]
        omega
      · have q1 : (((Utf8.decode s pos).1 : Int) == 10) = false := by simpa using h10
        go_wp2_with (go_at_call 33; refine (rune_written w.heap.size w.heap.size _ _ (by omega) (by omega) _ HI2.out hsz2 (Lib.byteCells_one _) (by rw [Lib.byteCells_length]; omega)).mono ?_; rintro e W1 ⟨rfl, g1, b1, k1⟩; refine Hid.out ?_)
        refine Lib.hid ?_
        have hu1 := row_kept HI2.out hrow2.out (by decide) (by decide) k1
        have hB1 : Lib.IsBuffer 86 5 w.heap.size w.heap.size (Lib.byteCells (acc ++ Lib.encodeRune (Utf8.decode s pos).1)) W1 := by
          rw [Lib.byteCells_append, Lib.byteCells_encodeRune]
          exact g1
        have hit3 := k1.iter hit2.out (show w.heap.size + 1 ≠ w.heap.size by omega)
        have hl4 := Lib.runeCells_le ((Utf8.decode s pos).1 : Int)
        rw [Lib.runeCells_length] at hl4
        have HN := Lib.hid (sp_on hB1 hu1 (hbw2.out.trans b1) hit3 h4 (by omega) (by rw [List.length_append]; omega) (HF.out.on (fun e => by rw [HP0.out e]; decide)))
        clear hnx g1 b1 k1 hu1 hB1 hit3 HI2 hit2 hbw2 hsz2 hl4 hrow2 hit
        go_wp2_with fail
        refine ⟨⟨pos + (Utf8.decode s pos).2, by omega, Lib.hid HN.out.1, HN.out.2⟩, ?_⟩
        simp only [World.iterPos, HN.out.2, HIT.out]
        omega
    · have hnx : ∀ ty, (Instr.next (.pointer (some ⟨w.heap.size + 1, 0, none⟩)) true ty).run Tryd.prog wr = _ := fun ty => Lib.run_next_end_at wr (w.heap.size + 1) s pos ty hit hp
      have HI2 := Lib.hid h1
      have hrow2 := Lib.hid h5
      have hbw2 := Lib.hid h2
      have hit2 := Lib.hid hit
      clear h1 h2 h5 HI
      go_wp2_with fail
      refine (buf_string w.heap.size w.heap.size acc _ HI2.out).mono ?_
      rintro e2 w2 ⟨rfl, n2, rfl⟩
      obtain ⟨g1, g2, g3, g4⟩ := sp_old HI2.out hrow2.out hbw2.out hit2.out (below_drewB (Below.refl _ _) n2)
      have HB1 := Lib.hid g1
      have HU1 := Lib.hid g2
      have HW1 := Lib.hid g3
      have HI1 := Lib.hid g4
      clear g1 g2 g3 g4 hit hnx HI2 hit2 hbw2 hrow2
      generalize wr.drewN n2 = W1 at HB1 HU1 HW1 HI1 ⊢
      go_wp2_with fail
      refine (strip_any ⟨acc.toArray⟩ (show acc.toArray.size ≤ _ by simp; omega) _).mono ?_
      rintro e3 W3 ⟨⟨t, rfl, hst⟩, hb3⟩
      have HST := Lib.hid hst
      obtain ⟨g1, g2, g3, g4⟩ := sp_old HB1.out HU1.out HW1.out HI1.out hb3
      have HU3 := Lib.hid g2
      have HW3 := Lib.hid g3
      have hW3 : w.heap.size ≤ W3.heap.size := g3.size
      have HFN := Lib.hid ((HF.out.cut (pos' := 0) (by omega) HST.out).head (show (out ++ [Value.string t]).length = out.length + 1 by simp))
      clear g1 g2 g3 g4 hst hb3 HB1 HU1 HW1 HI1 HST HF
      go_wp2_with (at_builtin; refine wpList_append_x _ rfl (.tmp 25) (.tmp 29) 69 rfl w.heap.size 9 i1 _ 1 16 Tryd.underlying69 hi1 hz1 hsz1 hb1 rfl (by omega) u5 out.length _ rfl (World.ownsRow.alloc HU3.out _) (W3.heap.size + 1) (some ⟨W3.heap.size, 0, none⟩) 1 1 [.string t] rfl (Reads.ofBlock (cs := #[.string t]) (heap_alloc_new _ _) rfl (by omega)) (by simp [Value.oneCell']) (.inr (by omega)) (by unfold maxLen; omega) (by omega) (by simp; omega) (W3.heap.size + 1) (by simp) ?_; intro g2 cap2 w2 hown2 hgrow2 hat2 hlt2; have HW2 := Lib.hid ((HW3.out.alloc hW3 _).grown hgrow2 (by simp; exact Nat.le_succ_of_le hW3) (fun k hk => (HU3.out.lt k hk).1)); have HO2 := Lib.hid hown2; clear hown2 hgrow2 hat2 hlt2)
      go_ret
      obtain ⟨t0, l, hl, hn, h47, hall⟩ := HFN.out
      have ho := HO2.out
      rw [hl] at ho hall
      exact ⟨⟨out.length, g2, cap2, t0, l, rfl, by omega, (ho.lt g2 rfl).1, h47, hn, hall, ho⟩, HW2.out⟩
end Go.Proofs.YtpgmnggicmbacaaDoor
