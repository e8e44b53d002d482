/-
  ast.BuildSource: a text cut into lines: something is laid, nothing that was there turns.
-/
import Derived.Test.YtpgmnggicmbacaaDoorWords
import Derived.Test.YtpgmnggicmbacaaDoorLaysR
import Derived.Lib.BufferKept
import Derived.WalkKit
import Derived.BigCall
namespace Go.Proofs.YtpgmnggicmbacaaDoor
open Go.Shelf Go.RowKit

theorem heap_newS (w : World) (o : Obj) : (w.alloc o).heap[w.heap.size]? = some o := heap_alloc_new w o
theorem Reads.ofBlock {w : World} {B size n g : Nat} {cs : Array Value} {t : TypeId} {fr : Nat × Nat} (h : w.heap[g]? = some (.cells cs t fr)) (hs : cs.size = n * size) (hg : g < B) : Reads w B size (some ⟨g, 0, none⟩) n cs.toList :=
  ⟨by simpa using hs, fun _ => ⟨_, rfl, hg, World.news_of_block h⟩⟩
/-- A row of another kind grows: the buffer stays. -/
theorem buf_grown {T e te : TypeId} {B b base n : Nat} {bs xs : List Value} {u : Value} {w w2 : World} (h : Lib.IsBuffer T e B b bs w) (hu : w.ownsRow base te 1 u n xs) (h1 : te ≠ T) (h2 : te ≠ e) (hg : w.grownBy w2 u.ownBlock) : Lib.IsBuffer T e B b bs w2 := by
  have hlt := h.lt
  obtain ⟨hB, v, lr, hbk, hown, hne⟩ := h
  refine ⟨hB, v, lr, (hg.block b hlt (fun e => own_blk_ne hu hbk h1 e.symm)).trans hbk, ⟨hown.1, ?_⟩, hne⟩
  rcases hown.2 with hn | ⟨g, cap, cur, hv, hbg, hgg, rest⟩
  · exact .inl hn
  · exact .inr ⟨g, cap, cur, hv, hbg, (hg.block g (Array.getElem?_eq_some_iff.1 hgg).1 (fun e => own_blk_ne hu hgg h2 e.symm)).trans hgg, rest⟩
/-- The buffer is written: a row of another kind stays. -/
theorem row_kept {T e te : TypeId} {B b base n : Nat} {bs xs : List Value} {u : Value} {w w2 : World} (h : Lib.IsBuffer T e B b bs w) (hu : w.ownsRow base te 1 u n xs) (h1 : te ≠ T) (h2 : te ≠ e) (hk : Lib.OthersKept e (some b) w w2) : w2.ownsRow base te 1 u n xs := by
  obtain ⟨hB, v, lr, hbk, hown, hne⟩ := h
  refine ⟨hu.1, ?_⟩
  rcases hu.2 with hn | ⟨g, cap, cur, rfl, hbg, hgg, rest⟩
  · exact .inl hn
  · refine .inr ⟨g, cap, cur, rfl, hbg, hk g _ hgg (fun e1 => ?_) (fun c fz e1 => ?_), rest⟩
    · cases e1
      exact own_blk_ne hu hbk h1 rfl
    · injection e1 with _ e2
      exact h2 e2
theorem row_iter {te : TypeId} {base n : Nat} {xs : List Value} {u : Value} {w : World} (hu : w.ownsRow base te 1 u n xs) {k : Nat} {s : ByteArray} {pos : Nat} (hk : w.heap[k]? = some (.stringIter s pos)) (pos' : Nat) : (w.iterAt k s pos').ownsRow base te 1 u n xs := by
  refine ⟨hu.1, ?_⟩
  rcases hu.2 with hn | ⟨g, cap, cur, rfl, hbg, hgg, rest⟩
  · exact .inl hn
  · refine .inr ⟨g, cap, cur, rfl, hbg, ?_, rest⟩
    rw [Lib.iterAt_other w k g s pos' (fun e => by subst e; rw [hgg] at hk; cases hk)]
    exact hgg
theorem own_iter_ne {te : TypeId} {base n : Nat} {xs : List Value} {u : Value} {w : World} (hu : w.ownsRow base te 1 u n xs) {k : Nat} {s : ByteArray} {pos : Nat} (hk : w.heap[k]? = some (.stringIter s pos)) : u.ownBlock ≠ some k := by
  rcases hu.2 with ⟨rfl, _⟩ | ⟨g, cap, cur, rfl, hbg, hgg, rest⟩
  · simp [Value.ownBlock]
  · intro e
    have : g = k := by simpa [Value.ownBlock] using e
    subst this
    rw [hgg] at hk
    cases hk
theorem width_le (s : ByteArray) (pos : Nat) : (Utf8.decode s pos).2 ≤ 4 := by
  simp only [Utf8.decode]
  repeat' split
  all_goals simp_all
theorem width_pos (s : ByteArray) (pos : Nat) (h : pos < s.size) : 1 ≤ (Utf8.decode s pos).2 := by
  by_cases ha : (s[pos]'h).toNat < 128
  · rw [decode_ascii s pos h ha]
    exact Nat.le_refl _
  · exact (decode_high s pos h (by omega)).2
theorem rune_written (B b : Nat) (bs : List Value) (r : Int) (hr0 : -2147483648 ≤ r) (hr1 : r ≤ 2147483647) (w : World) (h : Lib.IsBuffer 86 5 B b bs w) (hBw : B ≤ w.heap.size) (h1 : ∀ v ∈ bs, v.oneCell' = true) (hlim : bs.length + 4 ≤ 140737488355328) :
    Calls Tryd.prog 33 #[.pointer (some ⟨b, 0, none⟩), .int .i32 r] w fun e w' => e = .returned (.tuple #[.int .i64 (Lib.runeCells r).length, .nilIface]) ∧ Lib.IsBuffer 86 5 B b (bs ++ Lib.runeCells r) w' ∧ Below B w w' ∧ Lib.OthersKept 5 (some b) w w' :=
  Any.Buffer_WriteRune_k laysLaysWrn5 B b bs r hr0 hr1 w h hBw h1 hlim
theorem buf_string (B b : Nat) (l : List UInt8) (w : World) (h : Lib.IsBuffer 86 5 B b (Lib.byteCells l) w) :
    Calls Tryd.prog 36 #[.pointer (some ⟨b, 0, none⟩)] w fun e w' => e = .returned (.string ⟨l.toArray⟩) ∧ ∃ n, w' = w.drewN n := Any.Buffer_String laysLaysMn182 B b l w h
theorem buf_reset (B b : Nat) (bs : List Value) (w : World) (h : Lib.IsBuffer 86 5 B b bs w) :
    Calls Tryd.prog 85 #[.pointer (some ⟨b, 0, none⟩)] w fun e w' => e = .returned (.tuple #[]) ∧ Lib.IsBuffer 86 5 B b [] w' ∧ Below B w w' ∧ Lib.OthersKept 5 (some b) w w' := Any.Buffer_Reset_k laysLaysMn184 B b bs w h
theorem info_str : (Tryd.prog.info? 9).map (fun i => (i.zero, i.size, i.bytes)) = some (some (.string ByteArray.empty), 1, 16) := by kernel_rfl
def BsPost (w : World) (e : Ending) (w' : World) : Prop := (∃ g, e = .returned (.pointer (some ⟨g, 0, none⟩))) ∧ Below w.heap.size w w'
/-- What stands at the head of a round. -/
def BsI (w wr : World) (pos : Nat) (u : Value) : Prop :=
  ∃ (acc : List UInt8) (out : List Value), Lib.IsBuffer 86 5 w.heap.size w.heap.size (Lib.byteCells acc) wr ∧ Below w.heap.size w wr ∧ acc.length ≤ 4 * pos ∧ out.length ≤ pos ∧ wr.ownsRow w.heap.size 9 1 u out.length out

theorem below_drewB {B : Nat} {a w : World} (h : Below B a w) : ∀ q, Below B a (w.drewN q)
  | 0 => h
  | q + 1 => (below_drewB h q).drew
theorem bs_feed {w W1 w2 W4 : World} {s : ByteArray} {pos pos' n2 g2 cap2 : Nat} {u : Value} {l : List UInt8} {out : List Value} {x : Value} {O : Obj} (hB1 : Lib.IsBuffer 86 5 w.heap.size w.heap.size (Lib.byteCells l) W1) (hu1 : W1.ownsRow w.heap.size 9 1 u out.length out)
    (hbw : Below w.heap.size w W1) (hi : W1.heap[w.heap.size + 1]? = some (.stringIter s pos')) (hl : out.length ≤ pos) (hp : pos < pos')
    (hown2 : w2.ownsRow w.heap.size 9 1 (.slice (some ⟨g2, 0, none⟩) (out.length + 1) cap2) (out.length + 1) (out ++ [x])) (hgrow2 : ((W1.drewN n2).alloc O).grownBy w2 u.ownBlock)
    (g4 : Lib.IsBuffer 86 5 w.heap.size w.heap.size [] W4) (b4 : Below w.heap.size w2 W4) (k4 : Lib.OthersKept 5 (some w.heap.size) w2 W4) :
    BsI w W4 pos' (.slice (some ⟨g2, 0, none⟩) (out.length + 1) cap2) ∧ W4.heap[w.heap.size + 1]? = some (.stringIter s pos') := by
  have hs1 := hbw.size
  have hB2 : Lib.IsBuffer 86 5 w.heap.size w.heap.size (Lib.byteCells l) w2 := buf_grown ((hB1.drewN n2).alloc O) (World.ownsRow.alloc hu1 O) (by decide) (by decide) hgrow2
  have hlt : w.heap.size + 1 < W1.heap.size := (Array.getElem?_eq_some_iff.1 hi).1
  have hi2 : w2.heap[w.heap.size + 1]? = some (.stringIter s pos') := by
    have ha : ((W1.drewN n2).alloc O).heap[w.heap.size + 1]? = some (.stringIter s pos') := (Below.heap_alloc (W1.drewN n2) O (w.heap.size + 1) hlt).trans hi
    exact (hgrow2.block (w.heap.size + 1) (Array.getElem?_eq_some_iff.1 ha).1 (fun e => own_iter_ne hu1 hi e.symm)).trans ha
  have hb2 : Below w.heap.size w w2 := ((below_drewB hbw n2).alloc hs1 O).grown hgrow2 (by simp; exact Nat.le_succ_of_le hs1) (fun k hk => (hu1.lt k hk).1)
  refine ⟨⟨[], out ++ [x], g4, hb2.trans b4, by simp, by simp; omega, ?_⟩, k4.iter hi2 (by omega)⟩
  have := row_kept hB2 hown2 (by decide) (by decide) k4
  simpa using this
theorem bs_on {w W1 : World} {s : ByteArray} {pos pos' : Nat} {u : Value} {l : List UInt8} {out : List Value} (hB1 : Lib.IsBuffer 86 5 w.heap.size w.heap.size (Lib.byteCells l) W1) (hu1 : W1.ownsRow w.heap.size 9 1 u out.length out)
    (hbw : Below w.heap.size w W1) (hi : W1.heap[w.heap.size + 1]? = some (.stringIter s pos')) (hl : out.length ≤ pos) (hp : pos < pos') (hll : l.length ≤ 4 * pos') :
    BsI w W1 pos' u ∧ W1.heap[w.heap.size + 1]? = some (.stringIter s pos') :=
  ⟨⟨l, out, hB1, hbw, hll, by omega, hu1⟩, hi⟩

set_option maxRecDepth 100000 in
set_option maxHeartbeats 3200000 in
theorem BuildSource_any (f s : ByteArray) (hs : s.size ≤ 1000000) (w : World) : Calls Tryd.prog 57 #[.string f, .string s] w (BsPost w) := by
  obtain ⟨i1, hi1, hz1, hsz1, hb1⟩ := info_parts info_str
  go_enter Tryd.func57, Tryd.ntmps57
  go_wp2_with fail
  go_loopw [5, 8] (fun u _ wr => ∃ pos : Nat, pos ≤ s.size + 4 ∧ Hid (BsI w wr pos u) ∧ wr.heap[w.heap.size + 1]? = some (.stringIter s pos)) (fun _ _ wr => s.size - wr.iterPos (w.heap.size + 1))
  case atStart =>
    refine ⟨0, by omega, Lib.hid ⟨[], [], (Lib.fresh_isBuffer 86 5 w).alloc _, ((Below.refl _ w).alloc (Nat.le_refl _) _).alloc (by simp) _, by simp, by simp, World.ownsRow_nil _ _ _ _⟩, ?_⟩
    have := World.iter_heap (w.alloc (.cells #[.slice none 0 0, .int .i64 0, .int .i8 0] 86)) s 0
    simpa using this
  case round =>
    obtain ⟨pos, hp4, HI, hit⟩ := hrel
    have hsz : w.heap.size + 1 < wr.heap.size := (Array.getElem?_eq_some_iff.1 hit).1
    obtain ⟨acc, out, h1, h2, h3, h4, h5⟩ := HI.out
    by_cases hp : pos < s.size
    · have hnx : ∀ ty, (Instr.next (.pointer (some ⟨w.heap.size + 1, 0, none⟩)) true ty).run Tryd.prog wr = _ := fun ty => Lib.run_next_any_at wr (w.heap.size + 1) s pos ty hit hp
      have hwd := width_pos s pos hp
      have hwl := width_le s pos
      have hd1 := decode_le s pos
      have hI2 := h1.iterAt hit (pos + (Utf8.decode s pos).2)
      have hit2 := Lib.iterAt_heap wr (w.heap.size + 1) s pos (pos + (Utf8.decode s pos).2) hit
      have hbw2 := Lib.below_iterAt h2 (k := w.heap.size + 1) (by omega) s (pos + (Utf8.decode s pos).2)
      have hsz2 : w.heap.size ≤ (wr.iterAt (w.heap.size + 1) s (pos + (Utf8.decode s pos).2)).heap.size := by rw [Lib.iterAt_size]; omega
      by_cases h10 : ((Utf8.decode s pos).1 : Int) = 10
      · have q1 : (((Utf8.decode s pos).1 : Int) == 10) = true := by simpa using h10
        go_wp2_with (go_at_call 33; refine (rune_written w.heap.size w.heap.size _ _ (by omega) (by omega) _ hI2 hsz2 (Lib.byteCells_one _) (by rw [Lib.byteCells_length]; omega)).mono ?_; rintro e W1 ⟨rfl, g1, b1, k1⟩; refine Hid.out ?_)
        refine Lib.hid ?_
        have hu1 := row_kept hI2 (row_iter h5 hit (pos + (Utf8.decode s pos).2)) (by decide) (by decide) k1
        have hB1 : Lib.IsBuffer 86 5 w.heap.size w.heap.size (Lib.byteCells (acc ++ Lib.encodeRune (Utf8.decode s pos).1)) W1 := by
          rw [Lib.byteCells_append, Lib.byteCells_encodeRune, h10]
          exact g1
        have hit3 := k1.iter hit2 (show w.heap.size + 1 ≠ w.heap.size by omega)
        have hbw3 := hbw2.trans b1
        have HB1 := Lib.hid hB1
        have HU1 := Lib.hid hu1
        have HI3 := Lib.hid hit3
        have HW3 := Lib.hid hbw3
        have hW1 : w.heap.size ≤ W1.heap.size := hbw3.size
        generalize acc ++ Lib.encodeRune (Utf8.decode s pos).1 = l at HB1
        clear hnx g1 b1 k1 hu1 hB1 hit3 hbw3 hI2 hit2 hbw2 hsz2 h1 h2 h5 HI
        go_wp2_with (first
          | (go_at_call 36; refine (buf_string w.heap.size w.heap.size l W1 HB1.out).mono ?_; rintro e2 W2 ⟨rfl, n2, rfl⟩)
          | (at_builtin; refine wpList_append_x _ rfl (.tmp 19) (.tmp 21) 69 rfl w.heap.size 9 i1 _ 1 16 Tryd.underlying69 hi1 hz1 hsz1 hb1 rfl (by omega) u5 out.length _ rfl (World.ownsRow.alloc HU1.out _) (W1.heap.size + 1) (some ⟨W1.heap.size, 0, none⟩) 1 1 [.string ⟨l.toArray⟩] rfl (Reads.ofBlock (cs := #[.string ⟨l.toArray⟩]) (heap_alloc_new _ _) rfl (by omega)) (by simp [Value.oneCell']) (.inr (by omega)) (by unfold maxLen; omega) (by omega) (by simp; omega) (W1.heap.size + 1) (by simp) ?_; intro g2 cap2 w2 hown2 hgrow2 hat2 hlt2; have hB2 := buf_grown (HB1.out.drewN _ |>.alloc _) (World.ownsRow.alloc HU1.out _) (by decide) (by decide) hgrow2)
          | (go_at_call 85; refine (buf_reset w.heap.size w.heap.size _ w2 hB2).mono ?_; rintro e4 W4 ⟨rfl, g4, b4, k4⟩))
        have HN := Lib.hid (bs_feed HB1.out HU1.out HW3.out HI3.out h4 (by omega) hown2 hgrow2 g4 b4 k4)
        refine ⟨⟨pos + (Utf8.decode s pos).2, by omega, Lib.hid HN.out.1, HN.out.2⟩, ?_⟩
        simp only [World.iterPos, HN.out.2, hit]
        omega
      · have q1 : (((Utf8.decode s pos).1 : Int) == 10) = false := by simpa using h10
        go_wp2_with (go_at_call 33; refine (rune_written w.heap.size w.heap.size _ _ (by omega) (by omega) _ hI2 hsz2 (Lib.byteCells_one _) (by rw [Lib.byteCells_length]; omega)).mono ?_; rintro e W1 ⟨rfl, g1, b1, k1⟩; refine Hid.out ?_)
        refine Lib.hid ?_
        have hu1 := row_kept hI2 (row_iter h5 hit (pos + (Utf8.decode s pos).2)) (by decide) (by decide) k1
        have hB1 : Lib.IsBuffer 86 5 w.heap.size w.heap.size (Lib.byteCells (acc ++ Lib.encodeRune (Utf8.decode s pos).1)) W1 := by
          rw [Lib.byteCells_append, Lib.byteCells_encodeRune]
          exact g1
        have hit3 := k1.iter hit2 (show w.heap.size + 1 ≠ w.heap.size by omega)
        have hl4 := Lib.runeCells_le ((Utf8.decode s pos).1 : Int)
        rw [Lib.runeCells_length] at hl4
        have HN := Lib.hid (bs_on hB1 hu1 (hbw2.trans b1) hit3 h4 (by omega) (by rw [List.length_append]; omega))
        clear hnx g1 b1 k1 hu1 hB1 hit3 hI2 hit2 hbw2 hsz2 h1 h2 h5 HI hl4
        go_wp2_with fail
        refine ⟨⟨pos + (Utf8.decode s pos).2, by omega, Lib.hid HN.out.1, HN.out.2⟩, ?_⟩
        simp only [World.iterPos, HN.out.2, hit]
        omega
    · have hnx : ∀ ty, (Instr.next (.pointer (some ⟨w.heap.size + 1, 0, none⟩)) true ty).run Tryd.prog wr = _ := fun ty => Lib.run_next_end_at wr (w.heap.size + 1) s pos ty hit hp
      have HB1 := Lib.hid h1
      have HU1 := Lib.hid h5
      have HW1 := Lib.hid h2
      have hw1 : w.heap.size ≤ wr.heap.size := h2.size
      clear h1 h2 h5 HI
      go_wp2_with (first
          | (go_at_call 36; refine (buf_string w.heap.size w.heap.size acc wr HB1.out).mono ?_; rintro e2 W2 ⟨rfl, n2, rfl⟩)
          | (at_builtin; refine wpList_append_x _ rfl (.tmp 25) (.tmp 28) 69 rfl w.heap.size 9 i1 _ 1 16 Tryd.underlying69 hi1 hz1 hsz1 hb1 rfl (by omega) u5 out.length _ rfl (World.ownsRow.alloc HU1.out _) (wr.heap.size + 1) (some ⟨wr.heap.size, 0, none⟩) 1 1 [.string ((⟨acc.toArray⟩ : ByteArray) ++ (⟨#[10]⟩ : ByteArray))] rfl (Reads.ofBlock (cs := #[.string ((⟨acc.toArray⟩ : ByteArray) ++ (⟨#[10]⟩ : ByteArray))]) (heap_alloc_new _ _) rfl (by omega)) (by simp [Value.oneCell']) (.inr (by omega)) (by unfold maxLen; omega) (by omega) (by simp; omega) (wr.heap.size + 1) (by simp) ?_; intro g2 cap2 w2 hown2 hgrow2 hat2 hlt2; have hbw2 := ((below_drewB HW1.out _).alloc hw1 _).grown hgrow2 (by simp; exact Nat.le_succ_of_le hw1) (fun k hk => (HU1.out.lt k hk).1)))
      go_ret
      exact ⟨⟨_, rfl⟩, hbw2.alloc hbw2.size _⟩
end Go.Proofs.YtpgmnggicmbacaaDoor
