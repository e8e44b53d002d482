/-
  FnSymbolFirst: joined texts: SrBuild, SrLex, SrNext, SrSpec, SrWhite, SyLex, SyWhite, SyCon.
-/
import Derived.Test.YtpgmnggicmbacaaDoorWords
import Derived.Test.YtpgmnggicmbacaaDoorLaysR
import Derived.Lib.BufferKept
import Derived.WalkKit
import Derived.BigCall
import Derived.Deep.QuietTactic
import Derived.BigQuiet
import Derived.Deep.RegionLaw
import Derived.Deep.RegionHeld3
import Derived.Lib.RuneCountTail
import Derived.IntWalk
import Derived.Test.YtpgmnggicmbacaaDoorProg
import Derived.Deep.DeepCutAuto
namespace Go.Proofs.YtpgmnggicmbacaaDoor
open Go.Shelf Go.RowKit
set_option linter.unusedVariables false
set_option linter.unusedSimpArgs false

theorem heap_newS (w : World) (o : Obj) : (w.alloc o).heap[w.heap.size]? = some o := heap_alloc_new w o
theorem Reads.ofBlock {w : World} {B size n g : Nat} {cs : Array Value} {t : TypeId} {fr : Nat × Nat} (h : w.heap[g]? = some (.cells cs t fr)) (hs : cs.size = n * size) (hg : g < B) : Reads w B size (some ⟨g, 0, none⟩) n cs.toList :=
  ⟨by simpa using hs, fun _ => ⟨_, rfl, hg, World.news_of_block h⟩⟩
/-- A row of another kind grows: the buffer stays. -/
theorem buf_grown {T e te : TypeId} {B b base n : Nat} {bs xs : List Value} {u : Value} {w w2 : World} (h : Lib.IsBuffer T e B b bs w) (hu : w.ownsRow base te 1 u n xs) (h1 : te ≠ T) (h2 : te ≠ e) (hg : w.grownBy w2 u.ownBlock) : Lib.IsBuffer T e B b bs w2 := by
  have hlt := h.lt
  obtain ⟨hB, v, lr, hbk, hown, hne⟩ := h
  refine ⟨hB, v, lr, (hg.block b hlt (fun e => own_blk_ne hu hbk h1 e.symm)).trans hbk, ⟨hown.1, ?_⟩, hne⟩
  rcases hown.2 with hn | ⟨g, cap, cur, hv, hbg, hgg, rest⟩
  · exact .inl hn
  · exact .inr ⟨g, cap, cur, hv, hbg, (hg.block g (Array.getElem?_eq_some_iff.1 hgg).1 (fun e => own_blk_ne hu hgg h2 e.symm)).trans hgg, rest⟩
/-- The buffer is written: a row of another kind stays. -/
theorem row_kept {T e te : TypeId} {B b base n : Nat} {bs xs : List Value} {u : Value} {w w2 : World} (h : Lib.IsBuffer T e B b bs w) (hu : w.ownsRow base te 1 u n xs) (h1 : te ≠ T) (h2 : te ≠ e) (hk : Lib.OthersKept e (some b) w w2) : w2.ownsRow base te 1 u n xs := by
  obtain ⟨hB, v, lr, hbk, hown, hne⟩ := h
  refine ⟨hu.1, ?_⟩
  rcases hu.2 with hn | ⟨g, cap, cur, rfl, hbg, hgg, rest⟩
  · exact .inl hn
  · refine .inr ⟨g, cap, cur, rfl, hbg, hk g _ hgg (fun e1 => ?_) (fun c fz e1 => ?_), rest⟩
    · cases e1
      exact own_blk_ne hu hbk h1 rfl
    · injection e1 with _ e2
      exact h2 e2
theorem row_iter {te : TypeId} {base n : Nat} {xs : List Value} {u : Value} {w : World} (hu : w.ownsRow base te 1 u n xs) {k : Nat} {s : ByteArray} {pos : Nat} (hk : w.heap[k]? = some (.stringIter s pos)) (pos' : Nat) : (w.iterAt k s pos').ownsRow base te 1 u n xs := by
  refine ⟨hu.1, ?_⟩
  rcases hu.2 with hn | ⟨g, cap, cur, rfl, hbg, hgg, rest⟩
  · exact .inl hn
  · refine .inr ⟨g, cap, cur, rfl, hbg, ?_, rest⟩
    rw [Lib.iterAt_other w k g s pos' (fun e => by subst e; rw [hgg] at hk; cases hk)]
    exact hgg
theorem own_iter_ne {te : TypeId} {base n : Nat} {xs : List Value} {u : Value} {w : World} (hu : w.ownsRow base te 1 u n xs) {k : Nat} {s : ByteArray} {pos : Nat} (hk : w.heap[k]? = some (.stringIter s pos)) : u.ownBlock ≠ some k := by
  rcases hu.2 with ⟨rfl, _⟩ | ⟨g, cap, cur, rfl, hbg, hgg, rest⟩
  · simp [Value.ownBlock]
  · intro e
    have : g = k := by simpa [Value.ownBlock] using e
    subst this
    rw [hgg] at hk
    cases hk
theorem width_le (s : ByteArray) (pos : Nat) : (Utf8.decode s pos).2 ≤ 4 := by
  simp only [Utf8.decode]
  repeat' split
  all_goals simp_all
theorem width_pos (s : ByteArray) (pos : Nat) (h : pos < s.size) : 1 ≤ (Utf8.decode s pos).2 := by
  by_cases ha : (s[pos]'h).toNat < 128
  · rw [decode_ascii s pos h ha]
    exact Nat.le_refl _
  · exact (decode_high s pos h (by omega)).2
theorem rune_written (B b : Nat) (bs : List Value) (r : Int) (hr0 : -2147483648 ≤ r) (hr1 : r ≤ 2147483647) (w : World) (h : Lib.IsBuffer 86 5 B b bs w) (hBw : B ≤ w.heap.size) (h1 : ∀ v ∈ bs, v.oneCell' = true) (hlim : bs.length + 4 ≤ 140737488355328) :
    Calls Tryd.prog 33 #[.pointer (some ⟨b, 0, none⟩), .int .i32 r] w fun e w' => e = .returned (.tuple #[.int .i64 (Lib.runeCells r).length, .nilIface]) ∧ Lib.IsBuffer 86 5 B b (bs ++ Lib.runeCells r) w' ∧ Below B w w' ∧ Lib.OthersKept 5 (some b) w w' :=
  Any.Buffer_WriteRune_k laysLaysWrn5 B b bs r hr0 hr1 w h hBw h1 hlim
theorem buf_string (B b : Nat) (l : List UInt8) (w : World) (h : Lib.IsBuffer 86 5 B b (Lib.byteCells l) w) :
    Calls Tryd.prog 36 #[.pointer (some ⟨b, 0, none⟩)] w fun e w' => e = .returned (.string ⟨l.toArray⟩) ∧ ∃ n, w' = w.drewN n := Any.Buffer_String laysLaysMn182 B b l w h
theorem buf_reset (B b : Nat) (bs : List Value) (w : World) (h : Lib.IsBuffer 86 5 B b bs w) :
    Calls Tryd.prog 85 #[.pointer (some ⟨b, 0, none⟩)] w fun e w' => e = .returned (.tuple #[]) ∧ Lib.IsBuffer 86 5 B b [] w' ∧ Below B w w' ∧ Lib.OthersKept 5 (some b) w w' := Any.Buffer_Reset_k laysLaysMn184 B b bs w h
theorem info_str : (Tryd.prog.info? 9).map (fun i => (i.zero, i.size, i.bytes)) = some (some (.string ByteArray.empty), 1, 16) := by kernel_rfl
def BsPost (w : World) (e : Ending) (w' : World) : Prop := (∃ g, e = .returned (.pointer (some ⟨g, 0, none⟩))) ∧ Below w.heap.size w w'
/-- What stands at the head of a round. -/
def BsI (w wr : World) (pos : Nat) (u : Value) : Prop :=
  ∃ (acc : List UInt8) (out : List Value), Lib.IsBuffer 86 5 w.heap.size w.heap.size (Lib.byteCells acc) wr ∧ Below w.heap.size w wr ∧ acc.length ≤ 4 * pos ∧ out.length ≤ pos ∧ wr.ownsRow w.heap.size 9 1 u out.length out

theorem below_drewB {B : Nat} {a w : World} (h : Below B a w) : ∀ q, Below B a (w.drewN q)
  | 0 => h
  | q + 1 => (below_drewB h q).drew
theorem bs_feed {w W1 w2 W4 : World} {s : ByteArray} {pos pos' n2 g2 cap2 : Nat} {u : Value} {l : List UInt8} {out : List Value} {x : Value} {O : Obj} (hB1 : Lib.IsBuffer 86 5 w.heap.size w.heap.size (Lib.byteCells l) W1) (hu1 : W1.ownsRow w.heap.size 9 1 u out.length out)
    (hbw : Below w.heap.size w W1) (hi : W1.heap[w.heap.size + 1]? = some (.stringIter s pos')) (hl : out.length ≤ pos) (hp : pos < pos')
    (hown2 : w2.ownsRow w.heap.size 9 1 (.slice (some ⟨g2, 0, none⟩) (out.length + 1) cap2) (out.length + 1) (out ++ [x])) (hgrow2 : ((W1.drewN n2).alloc O).grownBy w2 u.ownBlock)
    (g4 : Lib.IsBuffer 86 5 w.heap.size w.heap.size [] W4) (b4 : Below w.heap.size w2 W4) (k4 : Lib.OthersKept 5 (some w.heap.size) w2 W4) :
    BsI w W4 pos' (.slice (some ⟨g2, 0, none⟩) (out.length + 1) cap2) ∧ W4.heap[w.heap.size + 1]? = some (.stringIter s pos') := by
  have hs1 := hbw.size
  have hB2 : Lib.IsBuffer 86 5 w.heap.size w.heap.size (Lib.byteCells l) w2 := buf_grown ((hB1.drewN n2).alloc O) (World.ownsRow.alloc hu1 O) (by decide) (by decide) hgrow2
  have hlt : w.heap.size + 1 < W1.heap.size := (Array.getElem?_eq_some_iff.1 hi).1
  have hi2 : w2.heap[w.heap.size + 1]? = some (.stringIter s pos') := by
    have ha : ((W1.drewN n2).alloc O).heap[w.heap.size + 1]? = some (.stringIter s pos') := (Below.heap_alloc (W1.drewN n2) O (w.heap.size + 1) hlt).trans hi
    exact (hgrow2.block (w.heap.size + 1) (Array.getElem?_eq_some_iff.1 ha).1 (fun e => own_iter_ne hu1 hi e.symm)).trans ha
  have hb2 : Below w.heap.size w w2 := ((below_drewB hbw n2).alloc hs1 O).grown hgrow2 (by simp; exact Nat.le_succ_of_le hs1) (fun k hk => (hu1.lt k hk).1)
  refine ⟨⟨[], out ++ [x], g4, hb2.trans b4, by simp, by simp; omega, ?_⟩, k4.iter hi2 (by omega)⟩
  have := row_kept hB2 hown2 (by decide) (by decide) k4
  simpa using this
theorem bs_on {w W1 : World} {s : ByteArray} {pos pos' : Nat} {u : Value} {l : List UInt8} {out : List Value} (hB1 : Lib.IsBuffer 86 5 w.heap.size w.heap.size (Lib.byteCells l) W1) (hu1 : W1.ownsRow w.heap.size 9 1 u out.length out)
    (hbw : Below w.heap.size w W1) (hi : W1.heap[w.heap.size + 1]? = some (.stringIter s pos')) (hl : out.length ≤ pos) (hp : pos < pos') (hll : l.length ≤ 4 * pos') :
    BsI w W1 pos' u ∧ W1.heap[w.heap.size + 1]? = some (.stringIter s pos') :=
  ⟨⟨l, out, hB1, hbw, hll, by omega, hu1⟩, hi⟩

set_option maxRecDepth 100000 in
set_option maxHeartbeats 3200000 in
theorem BuildSource_any (f s : ByteArray) (hs : s.size ≤ 1000000) (w : World) : Calls Tryd.prog 57 #[.string f, .string s] w (BsPost w) := by
  obtain ⟨i1, hi1, hz1, hsz1, hb1⟩ := info_parts info_str
  go_enter Tryd.func57, Tryd.ntmps57
  go_wp2_with fail
  go_loopw [5, 8] (fun u _ wr => ∃ pos : Nat, pos ≤ s.size + 4 ∧ Hid (BsI w wr pos u) ∧ wr.heap[w.heap.size + 1]? = some (.stringIter s pos)) (fun _ _ wr => s.size - wr.iterPos (w.heap.size + 1))
  case atStart =>
    refine ⟨0, by omega, Lib.hid ⟨[], [], (Lib.fresh_isBuffer 86 5 w).alloc _, ((Below.refl _ w).alloc (Nat.le_refl _) _).alloc (by simp) _, by simp, by simp, World.ownsRow_nil _ _ _ _⟩, ?_⟩
    have := World.iter_heap (w.alloc (.cells #[.slice none 0 0, .int .i64 0, .int .i8 0] 86)) s 0
    simpa using this
  case round =>
    obtain ⟨pos, hp4, HI, hit⟩ := hrel
    have hsz : w.heap.size + 1 < wr.heap.size := (Array.getElem?_eq_some_iff.1 hit).1
    obtain ⟨acc, out, h1, h2, h3, h4, h5⟩ := HI.out
    by_cases hp : pos < s.size
    · have hnx : ∀ ty, (Instr.next (.pointer (some ⟨w.heap.size + 1, 0, none⟩)) true ty).run Tryd.prog wr = _ := fun ty => Lib.run_next_any_at wr (w.heap.size + 1) s pos ty hit hp
      have hwd := width_pos s pos hp
      have hwl := width_le s pos
      have hd1 := decode_le s pos
      have hI2 := h1.iterAt hit (pos + (Utf8.decode s pos).2)
      have hit2 := Lib.iterAt_heap wr (w.heap.size + 1) s pos (pos + (Utf8.decode s pos).2) hit
      have hbw2 := Lib.below_iterAt h2 (k := w.heap.size + 1) (by omega) s (pos + (Utf8.decode s pos).2)
      have hsz2 : w.heap.size ≤ (wr.iterAt (w.heap.size + 1) s (pos + (Utf8.decode s pos).2)).heap.size := by rw [Lib.iterAt_size]; omega
      by_cases h10 : ((Utf8.decode s pos).1 : Int) = 10
      · have q1 : (((Utf8.decode s pos).1 : Int) == 10) = true := by simpa using h10
        go_wp2_with (go_at_call 33; refine (rune_written w.heap.size w.heap.size _ _ (by omega) (by omega) _ hI2 hsz2 (Lib.byteCells_one _) (by rw [Lib.byteCells_length]; omega)).mono ?_; rintro e W1 ⟨rfl, g1, b1, k1⟩; refine Hid.out ?_)
        refine Lib.hid ?_
        have hu1 := row_kept hI2 (row_iter h5 hit (pos + (Utf8.decode s pos).2)) (by decide) (by decide) k1
        have hB1 : Lib.IsBuffer 86 5 w.heap.size w.heap.size (Lib.byteCells (acc ++ Lib.encodeRune (Utf8.decode s pos).1)) W1 := by
          rw [Lib.byteCells_append, Lib.byteCells_encodeRune, h10]
          exact g1
        have hit3 := k1.iter hit2 (show w.heap.size + 1 ≠ w.heap.size by omega)
        have hbw3 := hbw2.trans b1
        have HB1 := Lib.hid hB1
        have HU1 := Lib.hid hu1
        have HI3 := Lib.hid hit3
        have HW3 := Lib.hid hbw3
        have hW1 : w.heap.size ≤ W1.heap.size := hbw3.size
        generalize acc ++ Lib.encodeRune (Utf8.decode s pos).1 = l at HB1
        clear hnx g1 b1 k1 hu1 hB1 hit3 hbw3 hI2 hit2 hbw2 hsz2 h1 h2 h5 HI
        go_wp2_with (first
          | (go_at_call 36; refine (buf_string w.heap.size w.heap.size l W1 HB1.out).mono ?_; rintro e2 W2 ⟨rfl, n2, rfl⟩)
          | (at_builtin; refine wpList_append_x _ rfl (.tmp 19) (.tmp 21) 69 rfl w.heap.size 9 i1 _ 1 16 Tryd.underlying69 hi1 hz1 hsz1 hb1 rfl (by omega) u5 out.length _ rfl (World.ownsRow.alloc HU1.out _) (W1.heap.size + 1) (some ⟨W1.heap.size, 0, none⟩) 1 1 [.string ⟨l.toArray⟩] rfl (Reads.ofBlock (cs := #[.string ⟨l.toArray⟩]) (heap_alloc_new _ _) rfl (by omega)) (by simp [Value.oneCell']) (.inr (by omega)) (by unfold maxLen; omega) (by omega) (by simp; omega) (W1.heap.size + 1) (by simp) ?_; intro g2 cap2 w2 hown2 hgrow2 hat2 hlt2; have hB2 := buf_grown (HB1.out.drewN _ |>.alloc _) (World.ownsRow.alloc HU1.out _) (by decide) (by decide) hgrow2)
          | (go_at_call 85; refine (buf_reset w.heap.size w.heap.size _ w2 hB2).mono ?_; rintro e4 W4 ⟨rfl, g4, b4, k4⟩))
        have HN := Lib.hid (bs_feed HB1.out HU1.out HW3.out HI3.out h4 (by omega) hown2 hgrow2 g4 b4 k4)
        refine ⟨⟨pos + (Utf8.decode s pos).2, by omega, Lib.hid HN.out.1, HN.out.2⟩, ?_⟩
        simp only [World.iterPos, HN.out.2, hit]
        omega
      · have q1 : (((Utf8.decode s pos).1 : Int) == 10) = false := by simpa using h10
        go_wp2_with (go_at_call 33; refine (rune_written w.heap.size w.heap.size _ _ (by omega) (by omega) _ hI2 hsz2 (Lib.byteCells_one _) (by rw [Lib.byteCells_length]; omega)).mono ?_; rintro e W1 ⟨rfl, g1, b1, k1⟩; refine Hid.out ?_)
        refine Lib.hid ?_
        have hu1 := row_kept hI2 (row_iter h5 hit (pos + (Utf8.decode s pos).2)) (by decide) (by decide) k1
        have hB1 : Lib.IsBuffer 86 5 w.heap.size w.heap.size (Lib.byteCells (acc ++ Lib.encodeRune (Utf8.decode s pos).1)) W1 := by
          rw [Lib.byteCells_append, Lib.byteCells_encodeRune]
          exact g1
        have hit3 := k1.iter hit2 (show w.heap.size + 1 ≠ w.heap.size by omega)
        have hl4 := Lib.runeCells_le ((Utf8.decode s pos).1 : Int)
        rw [Lib.runeCells_length] at hl4
        have HN := Lib.hid (bs_on hB1 hu1 (hbw2.trans b1) hit3 h4 (by omega) (by rw [List.length_append]; omega))
        clear hnx g1 b1 k1 hu1 hB1 hit3 hI2 hit2 hbw2 hsz2 h1 h2 h5 HI hl4
        go_wp2_with fail
        refine ⟨⟨pos + (Utf8.decode s pos).2, by omega, Lib.hid HN.out.1, HN.out.2⟩, ?_⟩
        simp only [World.iterPos, HN.out.2, hit]
        omega
    · have hnx : ∀ ty, (Instr.next (.pointer (some ⟨w.heap.size + 1, 0, none⟩)) true ty).run Tryd.prog wr = _ := fun ty => Lib.run_next_end_at wr (w.heap.size + 1) s pos ty hit hp
      have HB1 := Lib.hid h1
      have HU1 := Lib.hid h5
      have HW1 := Lib.hid h2
      have hw1 : w.heap.size ≤ wr.heap.size := h2.size
      clear h1 h2 h5 HI
      go_wp2_with (first
          | (go_at_call 36; refine (buf_string w.heap.size w.heap.size acc wr HB1.out).mono ?_; rintro e2 W2 ⟨rfl, n2, rfl⟩)
          | (at_builtin; refine wpList_append_x _ rfl (.tmp 25) (.tmp 28) 69 rfl w.heap.size 9 i1 _ 1 16 Tryd.underlying69 hi1 hz1 hsz1 hb1 rfl (by omega) u5 out.length _ rfl (World.ownsRow.alloc HU1.out _) (wr.heap.size + 1) (some ⟨wr.heap.size, 0, none⟩) 1 1 [.string ((⟨acc.toArray⟩ : ByteArray) ++ (⟨#[10]⟩ : ByteArray))] rfl (Reads.ofBlock (cs := #[.string ((⟨acc.toArray⟩ : ByteArray) ++ (⟨#[10]⟩ : ByteArray))]) (heap_alloc_new _ _) rfl (by omega)) (by simp [Value.oneCell']) (.inr (by omega)) (by unfold maxLen; omega) (by omega) (by simp; omega) (wr.heap.size + 1) (by simp) ?_; intro g2 cap2 w2 hown2 hgrow2 hat2 hlt2; have hbw2 := ((below_drewB HW1.out _).alloc hw1 _).grown hgrow2 (by simp; exact Nat.le_succ_of_le hw1) (fun k hk => (HU1.out.lt k hk).1)))
      go_ret
      exact ⟨⟨_, rfl⟩, hbw2.alloc hbw2.size _⟩
end Go.Proofs.YtpgmnggicmbacaaDoor
namespace Go.Proofs.YtpgmnggicmbacaaDoor
open Go.Shelf Go.RowKit
set_option linter.unusedVariables false
set_option linter.unusedSimpArgs false

/-- The lexer's cells: a text, a place in it. -/
def cellsX (f g s : ByteArray) (src fod tok : Value) (ts tl tc : Int) (fr : Bool) (pos : Nat) (ln ls : Int) : Array Value :=
  #[.string f, .string g, .string s, src, fod, tok, .int .i64 ts, .int .i64 tl, .int .i64 tc, .bool fr, .int .i64 pos, .int .i64 ln, .int .i64 ls]
/-- A lexer that has read up to a place. -/
def Lexer (w : World) (b : Nat) (s : ByteArray) (pos : Nat) : Prop :=
  ∃ f g src fod tok ts tl tc fr ln ls, Blk w b 81 (cellsX f g s src fod tok ts tl tc fr pos ln ls) ∧ 0 ≤ ln ∧ ln ≤ pos + 1
def LxPost (s : ByteArray) (w : World) (e : Ending) (w' : World) : Prop := (∃ b, e = .returned (.pointer (some ⟨b, 0, none⟩)) ∧ w.heap.size ≤ b ∧ Lexer w' b s 0) ∧ Below w.heap.size w w'
set_option maxRecDepth 100000 in
set_option maxHeartbeats 3200000 in
theorem makeLexer_any (f g s : ByteArray) (hs : s.size ≤ 1000000) (w : World) : Calls Tryd.prog 30 #[.string f, .string g, .string s] w (LxPost s w) := by
  go_enter Tryd.func30, Tryd.ntmps30
  go_wp2_with (go_at_call 57; refine (BuildSource_any _ s hs _).mono ?_; rintro e1 w1 ⟨⟨g1, rfl⟩, hb1⟩)
  go_ret
  exact ⟨⟨_, rfl, hb1.size, f, g, _, _, _, 0, 1, 1, true, 1, 0, Blk.new _ _ _, by omega, by omega⟩, hb1.alloc hb1.size _⟩

/-- What peek answers. -/
def peekR (s : ByteArray) (pos : Nat) : Int := if pos < s.size then ((Utf8.decode s pos).1 : Int) else -1
def PkPost (r : Int) (w : World) (e : Ending) (w' : World) : Prop := e = .returned (.int .i32 r) ∧ Below w.heap.size w w'
theorem rune_read (s : ByteArray) (w : World) (hT : Lib.Utf8Tabs 0 1 w) :
    Calls Tryd.prog 32 #[.string s] w fun e w' => e = .returned (.tuple #[.int .i32 (Lib.decodeGo s).1, .int .i64 (Lib.decodeGo s).2]) ∧ Below w.heap.size w w' := Any.utf8_DecodeRuneInString laysLaysn197 s w hT
theorem decode_tail (s : ByteArray) (pos : Nat) (h : pos < s.size) : Lib.decodeGo (s.extract pos s.size) = Utf8.decode s pos := by
  unfold Lib.decodeGo
  rw [if_neg (by rw [Lib.tail_size]; omega), Lib.tail_decode, Nat.add_zero]
theorem rune_at (s : ByteArray) (pos : Nat) (h : pos < s.size) (w : World) (hT : Lib.Utf8Tabs 0 1 w) :
    Calls Tryd.prog 32 #[.string (s.extract pos s.size)] w fun e w' => e = .returned (.tuple #[.int .i32 (Utf8.decode s pos).1, .int .i64 (Utf8.decode s pos).2]) ∧ Below w.heap.size w w' := by
  have := rune_read (s.extract pos s.size) w hT
  rw [decode_tail s pos h] at this
  exact this
theorem keep2x {w w' : World} (hb : Below w.heap.size w w') {p1 p2 : Addr} {u1 u2 : Value} (c1 : w.cell? p1 = some u1) (c2 : w.cell? p2 = some u2) :
    Below w.heap.size w w' ∧ w'.cell? p1 = some u1 ∧ w'.cell? p2 = some u2 :=
  have k : ∀ {p : Addr} {u : Value}, w.cell? p = some u → w'.cell? p = some u := fun {p} {_} h => (hb.cell (World.block_lt_of_cell? w p h)).trans h
  ⟨hb, k c1, k c2⟩

set_option maxRecDepth 100000 in
set_option maxHeartbeats 3200000 in
theorem peek_any (b : Nat) (s : ByteArray) (pos : Nat) (w : World) (h : Lexer w b s pos) (hT : Lib.Utf8Tabs 0 1 w) :
    Calls Tryd.prog 58 #[.pointer (some ⟨b, 0, none⟩)] w (PkPost (peekR s pos) w) := by
  obtain ⟨f, g, src, fod, tok, ts, tl, tc, fr, ln, ls, hB, -, -⟩ := h
  have c2 := hB.cell 2
  have c10 := hB.cell 10
  simp only [cellsX, List.getElem?_toArray, List.getElem?_cons_zero, List.getElem?_cons_succ] at c2 c10
  have HT := Lib.hid hT
  clear hT hB
  by_cases hlt : pos < s.size
  · have hge : decide ((pos : Int) ≥ (s.size : Int)) = false := by simp; omega
    have z0 : (0 : Int) ≤ (pos : Int) := by omega
    have z1 : (pos : Int) ≤ (s.size : Int) := by omega
    unfold peekR
    rw [if_pos hlt]
    go_enter Tryd.func58, Tryd.ntmps58
    go_wp2_with fail
    go_quiet ((fail))
    have HQ := Lib.hid (below_drewB (Below.refl w.heap.size w) nq)
    have c2 : (w.drewN nq).cell? ⟨b, 2, none⟩ = some (.string s) := c2
    have c10 : (w.drewN nq).cell? ⟨b, 10, none⟩ = some (.int .i64 pos) := c10
    have HT1 := Lib.hid (Utf8Tabs_below HT.out HQ.out)
    clear HT
    go_wp2_with fail
    generalize w.drewN nq = w1 at *
    have K := Lib.hid (rune_at s pos hlt w1.drew (Utf8Tabs_below HT1.out (Below.refl _ _).drew))
    go_region_held3 (fun w' => Below w1.heap.size w1 w' ∧ w'.cell? ⟨b, 2, none⟩ = some (.string s) ∧ w'.cell? ⟨b, 10, none⟩ = some (.int .i64 pos))
      ((refine keep2x ?_ c2 c10; repeat (first | with_reducible exact Below.refl _ _ | with_reducible exact hk9 | with_reducible apply Below.drew)))
      ((go_at_call 32; refine K.out.mono ?_; rintro e9 w9 ⟨rfl, hb9⟩; have hk9 : Below w1.heap.size w1 w9 := (Below.refl w1.heap.size w1).drew.trans hb9))
    all_goals
      go_wp2_with fail
      go_ret
      exact ⟨rfl, HQ.out.trans (hk9.mono HQ.out.size)⟩
  · have hge : decide ((pos : Int) ≥ (s.size : Int)) = true := by simp; omega
    unfold peekR
    rw [if_neg hlt]
    go_enter Tryd.func58, Tryd.ntmps58
    go_wp2_with fail
    go_quiet ((fail))
    go_wp2_with fail
    go_ret
    exact ⟨rfl, below_drewB (Below.refl _ _) _⟩
/-- White space. -/
def isW (r : Int) : Bool := r == 10 || r == 32 || r == 9 || r == 13
set_option maxRecDepth 100000 in
theorem isHor_any (r : Int) (w : World) : Calls Tryd.prog 86 #[.int .i32 r] w fun e w' => e = .returned (.bool (r == 32 || r == 9 || r == 13)) ∧ w = w' := by
  rcases h1 : (r == 32) with _ | _ <;> rcases h2 : (r == 9) with _ | _ <;> rcases h3 : (r == 13) with _ | _
  all_goals
    go_enter Tryd.func86, Tryd.ntmps86
    go_wp2
    go_ret
    exact ⟨rfl, rfl⟩
set_option maxRecDepth 100000 in
theorem isW_any (r : Int) (w : World) : Calls Tryd.prog 59 #[.int .i32 r] w fun e w' => e = .returned (.bool (isW r)) ∧ w = w' := by
  have K := Lib.hid (isHor_any r w)
  unfold isW
  rcases h1 : (r == 10) with _ | _
  · go_enter Tryd.func59, Tryd.ntmps59
    go_wp2_with fail
    refine K.out.mono ?_
    rintro e1 w1 ⟨rfl, rfl⟩
    go_wp2_with fail
    go_ret
    exact ⟨rfl, rfl⟩
  · go_enter Tryd.func59, Tryd.ntmps59
    go_wp2_with fail
    go_ret
    exact ⟨rfl, rfl⟩
end Go.Proofs.YtpgmnggicmbacaaDoor
namespace Go.Proofs.YtpgmnggicmbacaaDoor
open Go.Shelf Go.RowKit
set_option linter.unusedVariables false
set_option linter.unusedSimpArgs false

/-- Where the lexer stands behind a rune. -/
def nextP (s : ByteArray) (pos : Nat) : Nat := if pos < s.size then pos + (Utf8.decode s pos).2 else pos
def NxPost (b : Nat) (s : ByteArray) (pos : Nat) (w : World) (e : Ending) (w' : World) : Prop := e = .returned (.int .i32 (peekR s pos)) ∧ Lexer w' b s (nextP s pos) ∧ Below b w w'

set_option maxRecDepth 100000 in
set_option maxHeartbeats 3200000 in
theorem next_any (b : Nat) (s : ByteArray) (pos : Nat) (hs : s.size ≤ 1000000) (hp : pos ≤ s.size + 4) (w : World) (h : Lexer w b s pos) (hT : Lib.Utf8Tabs 0 1 w) :
    Calls Tryd.prog 60 #[.pointer (some ⟨b, 0, none⟩)] w (NxPost b s pos w) := by
  obtain ⟨f, g, src, fod, tok, ts, tl, tc, fr, ln, ls, hB, hl0, hl1⟩ := h
  have c2 := hB.cell 2
  have c10 := hB.cell 10
  simp only [cellsX, List.getElem?_toArray, List.getElem?_cons_zero, List.getElem?_cons_succ] at c2 c10
  have HT := Lib.hid hT
  have HB := Lib.hid hB
  have hbl : b < w.heap.size := hB.lt
  have hbw := hbl
  clear hT hB
  by_cases hlt : pos < s.size
  · have hge : decide ((pos : Int) ≥ (s.size : Int)) = false := by simp; omega
    have z0 : (0 : Int) ≤ (pos : Int) := by omega
    have z1 : (pos : Int) ≤ (s.size : Int) := by omega
    unfold NxPost peekR nextP
    rw [if_pos hlt, if_pos hlt]
    have hwl := width_le s pos
    have hwp := width_pos s pos hlt
    go_enter Tryd.func60, Tryd.ntmps60
    go_wp2_with fail
    go_quiet ((fail))
    have HQ := Lib.hid (below_drewB (Below.refl w.heap.size w) nq)
    have c2 : (w.drewN nq).cell? ⟨b, 2, none⟩ = some (.string s) := c2
    have c10 : (w.drewN nq).cell? ⟨b, 10, none⟩ = some (.int .i64 pos) := c10
    have HT1 := Lib.hid (Utf8Tabs_below HT.out HQ.out)
    have HB1 : Hid (Blk (w.drewN nq) b 81 (cellsX f g s src fod tok ts tl tc fr pos ln ls)) := Lib.hid HB.out
    have hbl : b < (w.drewN nq).heap.size := hbl
    clear HT HB
    go_wp2_with fail
    generalize w.drewN nq = w1 at *
    have K := Lib.hid (rune_at s pos hlt w1.drew (Utf8Tabs_below HT1.out (Below.refl _ _).drew))
    generalize hrn : (Utf8.decode s pos).1 = rn at *
    generalize hwd : (Utf8.decode s pos).2 = wd at *
    have HRN := Lib.hid hrn
    have HWD := Lib.hid hwd
    clear hrn hwd
    go_region_held3 (fun w' => Below w1.heap.size w1 w' ∧ w'.cell? ⟨b, 2, none⟩ = some (.string s) ∧ w'.cell? ⟨b, 10, none⟩ = some (.int .i64 pos))
      ((refine keep2x ?_ c2 c10; repeat (first | with_reducible exact Below.refl _ _ | with_reducible exact hk9 | with_reducible apply Below.drew)))
      ((go_at_call 32; refine K.out.mono ?_; rintro e9 w9 ⟨rfl, hb9⟩; have hk9 : Below w1.heap.size w1 w9 := (Below.refl w1.heap.size w1).drew.trans hb9))
    all_goals
      have hB9 := HB1.out.below hk9 hbl
      have f10 := hB9.frozen 10
      have d10 := hB9.cell 10
      simp only [cellsX, List.getElem?_toArray, List.getElem?_cons_zero, List.getElem?_cons_succ] at d10
      have wr1 : IntKind.i64.wrap ((pos : Int) + (wd : Int)) = (pos : Int) + (wd : Int) := IntWalk.i64_in _ (by omega)
      have hb9 : Below b w w9 := (HQ.out.mono (Nat.le_of_lt hbw)).trans (hk9.mono (Nat.le_of_lt hbl))
      obtain ⟨v1, hv1⟩ : ∃ v : Value, v = .int .i64 ((pos : Int) + (wd : Int)) := ⟨_, rfl⟩
      have hS4 : Blk (w9.setCell ⟨b, 10, none⟩ (.int .i64 ((pos : Int) + (wd : Int)))) b 81 (cellsX f g s src fod tok ts tl tc fr (pos + wd) ln ls) := by simpa [cellsX] using hB9.set_ 10 (.int .i64 ((pos : Int) + (wd : Int)))
      have e10 := hS4.cell 10
      have e9 := hS4.cell 9
      have f12 := hS4.frozen 12
      have f9 := hS4.frozen 9
      have hS5 : Blk ((w9.setCell ⟨b, 10, none⟩ (.int .i64 ((pos : Int) + (wd : Int)))).setCell ⟨b, 12, none⟩ (.int .i64 ((pos : Int) + (wd : Int)))) b 81 (cellsX f g s src fod tok ts tl tc fr (pos + wd) ln ((pos : Int) + (wd : Int))) := by simpa [cellsX] using hS4.set_ 12 (.int .i64 ((pos : Int) + (wd : Int)))
      have e11 := hS5.cell 11
      have f11 := hS5.frozen 11
      have hS6 : Blk (((w9.setCell ⟨b, 10, none⟩ (.int .i64 ((pos : Int) + (wd : Int)))).setCell ⟨b, 12, none⟩ (.int .i64 ((pos : Int) + (wd : Int)))).setCell ⟨b, 11, none⟩ (.int .i64 (ln + 1))) b 81 (cellsX f g s src fod tok ts tl tc fr (pos + wd) (ln + 1) ((pos : Int) + (wd : Int))) := by simpa [cellsX] using hS5.set_ 11 (.int .i64 (ln + 1))
      have f9' := hS6.frozen 9
      have e12 := hS4.cell 12
      have e9' := hS6.cell 9
      have wln : IntKind.i64.wrap (ln + 1) = ln + 1 := IntWalk.i64_in _ (by omega)
      simp only [cellsX, List.getElem?_toArray, List.getElem?_cons_zero, List.getElem?_cons_succ, Int.natCast_add] at e10 e9 e11 e12 e9'
      have H4 := Lib.hid hS4
      have H6 := Lib.hid hS6
      have HB9 := Lib.hid hb9
      clear hS4 hS5 hS6 hb9 hv1 hB9
      rcases hr : ((rn : Int) == 10) with _ | _
      · have KW := Lib.hid (isW_any (rn : Int) (w9.setCell ⟨b, 10, none⟩ (.int .i64 ((pos : Int) + (wd : Int)))))
        cases fr
        · go_wp2_with fail
          go_ret
          have hrn := HRN.out
          have hwd := HWD.out
          subst hrn hwd
          exact ⟨rfl, ⟨f, g, src, fod, tok, ts, tl, tc, false, ln, ls, H4.out, hl0, by omega⟩, HB9.out.setCell (p := ⟨b, 10, none⟩) (Nat.le_refl _) _⟩
        · go_wp2_with fail
          refine KW.out.mono ?_
          rintro e8 w8 ⟨rfl, rfl⟩
          cases isW (rn : Int)
          · go_wp2_with fail
            go_ret
            have hrn := HRN.out
            have hwd := HWD.out
            subst hrn hwd
            exact ⟨rfl, ⟨f, g, src, fod, tok, ts, tl, tc, false, ln, ls, by simpa [cellsX] using H4.out.set_ 9 (.bool false), hl0, by omega⟩, (HB9.out.setCell (p := ⟨b, 10, none⟩) (Nat.le_refl _) _).setCell (p := ⟨b, 9, none⟩) (Nat.le_refl _) _⟩
          · go_wp2_with fail
            go_ret
            have hrn := HRN.out
            have hwd := HWD.out
            subst hrn hwd
            exact ⟨rfl, ⟨f, g, src, fod, tok, ts, tl, tc, true, ln, ls, H4.out, hl0, by omega⟩, HB9.out.setCell (p := ⟨b, 10, none⟩) (Nat.le_refl _) _⟩
      · go_wp2_with fail
        go_ret
        have hrn := HRN.out
        have hwd := HWD.out
        subst hrn hwd
        exact ⟨rfl, ⟨f, g, src, fod, tok, ts, tl, tc, true, ln + 1, _, by simpa [cellsX] using H6.out.set_ 9 (.bool true), by omega, by omega⟩, (((HB9.out.setCell (p := ⟨b, 10, none⟩) (Nat.le_refl _) _).setCell (p := ⟨b, 12, none⟩) (Nat.le_refl _) _).setCell (p := ⟨b, 11, none⟩) (Nat.le_refl _) _).setCell (p := ⟨b, 9, none⟩) (Nat.le_refl _) _⟩
  · have hge : decide ((pos : Int) ≥ (s.size : Int)) = true := by simp; omega
    unfold NxPost peekR nextP
    rw [if_neg hlt, if_neg hlt]
    go_enter Tryd.func60, Tryd.ntmps60
    go_wp2_with fail
    go_quiet ((fail))
    go_wp2_with fail
    go_ret
    exact ⟨rfl, ⟨f, g, src, fod, tok, ts, tl, tc, fr, ln, ls, HB.out, hl0, hl1⟩, below_drewB (Below.refl _ _) _⟩
end Go.Proofs.YtpgmnggicmbacaaDoor
namespace Go.Proofs.YtpgmnggicmbacaaDoor
open Go.RowKit
set_option linter.unusedVariables false
set_option linter.unusedSimpArgs false

/-- The byte at a place, as a number; 0 past the end. -/
def byteN (s : ByteArray) (pos : Nat) : Nat := if h : pos < s.size then (s[pos]'h).toNat else 0
/-- White space from a place on: lines, indent, where it ends. -/
def spaceF (s : ByteArray) : Nat → Nat → Nat → Nat → Nat × Nat × Nat
  | 0, pos, l, i => (l, i, pos)
  | fuel + 1, pos, l, i =>
    if pos < s.size then
      if byteN s pos = 10 then spaceF s fuel (pos + 1) (l + 1) 0
      else if byteN s pos = 32 then spaceF s fuel (pos + 1) l (i + 1)
      else if byteN s pos = 9 then spaceF s fuel (pos + 1) l (i + 8)
      else if byteN s pos = 13 then spaceF s fuel (pos + 1) l i
      else (l, i, pos)
    else (l, i, pos)
def spaceR (s : ByteArray) : Nat × Nat × Nat := spaceF s s.size 0 0 0
set_option maxRecDepth 100000 in
set_option maxHeartbeats 1600000 in
theorem spec_SpaceRead_any (s : ByteArray) (hs : s.size ≤ 1000000) (w : World) :
    Calls Tryd.prog 7 #[.string s] w fun e w' => e = .returned (.tuple #[.int .i64 ((spaceR s).1 : Nat), .int .i64 ((spaceR s).2.1 : Nat), .int .i64 ((spaceR s).2.2 : Nat)]) ∧ w = w' := by
  go_enter Tryd.func7, Tryd.ntmps7
  go_wp2_with fail
  go_loopw [2, 3, 4] (fun l i t wr => ∃ pos li ii fuel : Nat, l = .int .i64 li ∧ i = .int .i64 ii ∧ t = .int .i64 pos ∧ wr = w ∧ Hid (spaceF s fuel pos li ii = spaceR s) ∧ s.size ≤ pos + fuel ∧ pos ≤ s.size ∧ li ≤ pos ∧ ii ≤ 8 * pos) (fun _ _ t _ => s.size - (intOf t).toNat)
  case atStart => exact ⟨0, 0, 0, s.size, rfl, rfl, rfl, by trivial, Lib.hid rfl, by omega, by omega, by omega, by omega⟩
  case round =>
    obtain ⟨pos, li, ii, fuel, rfl, rfl, rfl, rfl, HR, h1, h2, h3, h4⟩ := hrel
    by_cases hlt : pos < s.size
    · obtain ⟨q, rfl⟩ : ∃ q, fuel = q + 1 := ⟨fuel - 1, by omega⟩
      have hb : byteN s pos = (s[pos]'hlt).toNat := dif_pos hlt
      have HB := Lib.hid hb
      clear hb
      go_wp2_with fail
      all_goals have hb := HB.out
      all_goals have hr := HR.out
      all_goals simp only [beq_iff_eq, beq_eq_false_iff_ne] at *
      all_goals first
        | (refine ⟨⟨pos + 1, li + 1, 0, q, by go_num, by go_num, by go_num, by trivial, Lib.hid ?_, by omega, by omega, by omega, by omega⟩, by simp [intOf]; omega⟩; rw [← hr]; conv => rhs; rw [spaceF, if_pos hlt, hb]
           repeat' split
           all_goals first | rfl | omega)
        | (refine ⟨⟨pos + 1, li, ii + 1, q, by go_num, by go_num, by go_num, by trivial, Lib.hid ?_, by omega, by omega, by omega, by omega⟩, by simp [intOf]; omega⟩; rw [← hr]; conv => rhs; rw [spaceF, if_pos hlt, hb]
           repeat' split
           all_goals first | rfl | omega)
        | (refine ⟨⟨pos + 1, li, ii + 8, q, by go_num, by go_num, by go_num, by trivial, Lib.hid ?_, by omega, by omega, by omega, by omega⟩, by simp [intOf]; omega⟩; rw [← hr]; conv => rhs; rw [spaceF, if_pos hlt, hb]
           repeat' split
           all_goals first | rfl | omega)
        | (refine ⟨⟨pos + 1, li, ii, q, by go_num, by go_num, by go_num, by trivial, Lib.hid ?_, by omega, by omega, by omega, by omega⟩, by simp [intOf]; omega⟩; rw [← hr]; conv => rhs; rw [spaceF, if_pos hlt, hb]
           repeat' split
           all_goals first | rfl | omega)
        | skip
      have e : spaceR s = (li, ii, pos) := by
        rw [← hr, spaceF, if_pos hlt, hb]
        repeat' split
        all_goals first | rfl | omega
      rw [e]
      go_ret3
      exact ⟨rfl, rfl⟩
    · have hr := HR.out
      have e : spaceR s = (li, ii, pos) := by
        rw [← hr]
        cases fuel
        · rfl
        · rw [spaceF, if_neg hlt]
      go_wp2_with fail
      go_ret3
      rw [e]
      exact ⟨rfl, rfl⟩
end Go.Proofs.YtpgmnggicmbacaaDoor
namespace Go.Proofs.YtpgmnggicmbacaaDoor
open Go.Shelf Go.RowKit
set_option linter.unusedVariables false
set_option linter.unusedSimpArgs false

theorem peek_low {s : ByteArray} {pos : Nat} (h : pos < s.size) (hb : byteN s pos < 128) : peekR s pos = (byteN s pos : Int) ∧ (Utf8.decode s pos).2 = 1 := by
  have e : byteN s pos = (s[pos]'h).toNat := dif_pos h
  rw [e] at hb ⊢
  unfold peekR
  rw [if_pos h, decode_ascii s pos h hb]
  exact ⟨rfl, rfl⟩
theorem peek_high {s : ByteArray} {pos : Nat} (h : pos < s.size) (hb : 128 ≤ byteN s pos) : 128 ≤ peekR s pos := by
  have e : byteN s pos = (s[pos]'h).toNat := dif_pos h
  rw [e] at hb
  unfold peekR
  rw [if_pos h]
  have := (decode_high s pos h hb).1
  omega
theorem isW_low {n : Nat} : isW (n : Int) = (decide (n = 10) || decide (n = 32) || decide (n = 9) || decide (n = 13)) := by
  unfold isW
  rw [Bool.eq_iff_iff]
  simp
  omega
theorem isW_high {r : Int} (h : 128 ≤ r) : isW r = false := by
  unfold isW
  simp
  omega
/-- The tables of package utf8 stand below a block. -/
def TabsAt (B : Nat) (w : World) : Prop := ∃ w0 : World, Lib.Utf8Tabs 0 1 w0 ∧ w0.heap.size ≤ B ∧ Below w0.heap.size w0 w
theorem TabsAt.tabs {B : Nat} {w : World} (h : TabsAt B w) : Lib.Utf8Tabs 0 1 w := by
  obtain ⟨w0, h1, -, h3⟩ := h
  exact Utf8Tabs_below h1 h3
theorem TabsAt.below {B : Nat} {w w' : World} (h : TabsAt B w) (hb : Below B w w') : TabsAt B w' := by
  obtain ⟨w0, h1, h2, h3⟩ := h
  exact ⟨w0, h1, h2, h3.trans (hb.mono h2)⟩
theorem TabsAt.mono {B C : Nat} {w : World} (h : TabsAt B w) (hb : B ≤ C) : TabsAt C w := by
  obtain ⟨w0, h1, h2, h3⟩ := h
  exact ⟨w0, h1, Nat.le_trans h2 hb, h3⟩
theorem Lexer.lt {w : World} {b : Nat} {s : ByteArray} {pos : Nat} (h : Lexer w b s pos) : b < w.heap.size := by
  obtain ⟨_, _, _, _, _, _, _, _, _, _, _, hB, -⟩ := h
  exact hB.lt
theorem Lexer.below {w w' : World} {b : Nat} {s : ByteArray} {pos : Nat} (h : Lexer w b s pos) (hb : Below w.heap.size w w') : Lexer w' b s pos := by
  have hl := h.lt
  obtain ⟨f, g, src, fod, tok, ts, tl, tc, fr, ln, ls, hB, h1, h2⟩ := h
  exact ⟨f, g, src, fod, tok, ts, tl, tc, fr, ln, ls, hB.below hb hl, h1, h2⟩
def lexPos (b : Nat) (w : World) : Nat := match w.cell? ⟨b, 10, none⟩ with | some (.int _ n) => n.toNat | _ => 0
theorem Lexer.pos {w : World} {b : Nat} {s : ByteArray} {pos : Nat} (h : Lexer w b s pos) : lexPos b w = pos := by
  obtain ⟨f, g, src, fod, tok, ts, tl, tc, fr, ln, ls, hB, h1, h2⟩ := h
  have c := hB.cell 10
  simp only [cellsX, List.getElem?_toArray, List.getElem?_cons_zero, List.getElem?_cons_succ] at c
  unfold lexPos
  rw [c]
  rfl
/-- What lexWhitespace answers. -/
def WsPost (b : Nat) (s : ByteArray) (pos : Nat) (w : World) (e : Ending) (w' : World) : Prop :=
  ∃ l i t : Nat, e = .returned (.tuple #[.int .i64 l, .int .i64 i]) ∧ spaceF s (s.size - pos) pos 0 0 = (l, i, t) ∧ pos ≤ t ∧ t ≤ s.size ∧ Lexer w' b s t ∧ Below b w w'
/-- What stands at the head of a round. -/
def WsI (b : Nat) (s : ByteArray) (w wr : World) (pos : Nat) : Prop := Lexer wr b s pos ∧ Below b w wr
theorem space_out {s : ByteArray} {pos : Nat} (h : isW (peekR s pos) = false) (fuel l i : Nat) : spaceF s fuel pos l i = (l, i, pos) := by
  cases fuel with
  | zero => rfl
  | succ n =>
    rw [spaceF]
    split
    · rename_i hl
      by_cases hb : byteN s pos < 128
      · rw [(peek_low hl hb).1, isW_low] at h
        simp only [Bool.or_eq_false_iff, decide_eq_false_iff_not] at h
        rw [if_neg h.1.1.1, if_neg h.1.1.2, if_neg h.1.2, if_neg h.2]
      · rw [if_neg (by omega), if_neg (by omega), if_neg (by omega), if_neg (by omega)]
    · rfl
/-- White space is one byte. -/
theorem space_in {s : ByteArray} {pos : Nat} (h : isW (peekR s pos) = true) : pos < s.size ∧ nextP s pos = pos + 1 ∧ (peekR s pos = 10 ∧ byteN s pos = 10 ∨ peekR s pos = 32 ∧ byteN s pos = 32 ∨ peekR s pos = 9 ∧ byteN s pos = 9 ∨ peekR s pos = 13 ∧ byteN s pos = 13) := by
  by_cases hl : pos < s.size
  · by_cases hb : byteN s pos < 128
    · have h1 := (peek_low hl hb).1
      rw [h1, isW_low] at h
      simp only [Bool.or_eq_true, decide_eq_true_eq] at h
      refine ⟨hl, ?_, ?_⟩
      · unfold nextP
        rw [if_pos hl, (peek_low hl hb).2]
      · rw [h1]
        omega
    · rw [isW_high (peek_high hl (by omega))] at h
      cases h
  · unfold peekR at h
    rw [if_neg hl] at h
    exact absurd h (by decide)
set_option maxRecDepth 100000 in
set_option maxHeartbeats 3200000 in
theorem white_any (b : Nat) (s : ByteArray) (pos : Nat) (hs : s.size ≤ 1000000) (hp : pos ≤ s.size) (w : World) (h : Lexer w b s pos) (hT : TabsAt b w) :
    Calls Tryd.prog 31 #[.pointer (some ⟨b, 0, none⟩)] w (WsPost b s pos w) := by
  have hbl : b < w.heap.size := h.lt
  have H := Lib.hid h
  have HT := Lib.hid hT
  clear h hT
  go_enter Tryd.func31, Tryd.ntmps31
  go_wp2_with fail
  refine (peek_any b s pos _ H.out HT.out.tabs).mono ?_
  rintro e1 w1 ⟨rfl, hb1⟩
  have HI := Lib.hid (show WsI b s w w1 pos from ⟨H.out.below hb1, hb1.mono (Nat.le_of_lt hbl)⟩)
  clear hb1
  obtain ⟨rr, hrr⟩ : ∃ rr, rr = peekR s pos := ⟨_, rfl⟩
  rw [← hrr]
  have HR := Lib.hid hrr
  clear hrr
  go_wp2_with fail
  go_loopw [4, 5, 6] (fun r i l wr => ∃ (rv : Int) (p li ii fuel : Nat), r = .int .i32 rv ∧ i = .int .i64 ii ∧ l = .int .i64 li ∧ Hid (rv = peekR s p) ∧ Hid (WsI b s w wr p) ∧ Hid (spaceF s fuel p li ii = spaceF s (s.size - pos) pos 0 0) ∧ s.size ≤ p + fuel ∧ pos ≤ p ∧ p ≤ s.size ∧ li ≤ p ∧ ii ≤ 8 * p) (fun _ _ _ wr => s.size - lexPos b wr)
  case atStart => exact ⟨rr, pos, 0, 0, s.size - pos, rfl, rfl, rfl, HR, HI, Lib.hid rfl, by omega, by omega, by omega, by omega, by omega⟩
  case round =>
    clear HR HI
    obtain ⟨rv, p, li, ii, fuel, rfl, rfl, rfl, HR, HI, HS, h1, h2, h3, h4, h5⟩ := hrel
    rcases hw : isW rv with _ | _
    · have HW := Lib.hid hw
      clear hw
      go_wp2_with fail
      refine (isW_any rv _).mono ?_
      rintro e2 w2 ⟨rfl, rfl⟩
      rw [HW.out]
      go_wp2_with fail
      go_ret2
      have hr := HR.out
      have hw := HW.out
      subst hr
      have hs2 := HS.out
      rw [space_out hw] at hs2
      exact ⟨li, ii, p, rfl, hs2.symm, h2, h3, HI.out.1, HI.out.2⟩
    · have hr := HR.out
      have hin := space_in (s := s) (pos := p) (by rw [← hr]; exact hw)
      obtain ⟨hlt, hn, hc⟩ := hin
      rw [← hr] at hc
      have HN := Lib.hid hn
      obtain ⟨q, rfl⟩ : ∃ q, fuel = q + 1 := ⟨fuel - 1, by omega⟩
      clear hw hn hr
      rcases hc with ⟨hrv, hby⟩ | ⟨hrv, hby⟩ | ⟨hrv, hby⟩ | ⟨hrv, hby⟩
      all_goals
        have HB := Lib.hid hby
        clear hby
      · subst hrv
        go_wp2_with fail
        refine (isW_any _ _).mono ?_
        rintro e2 w2 ⟨rfl, rfl⟩
        rw [show isW 10 = true from rfl]
        go_wp2_with fail
        refine (next_any b s p hs (by omega) _ HI.out.1 (HT.out.below HI.out.2).tabs).mono ?_
        rintro e3 w3 ⟨rfl, hl3, hb3⟩
        have HI3 := Lib.hid (show WsI b s w w3 (p + 1) from ⟨HN.out ▸ hl3, HI.out.2.trans hb3⟩)
        clear hl3 hb3
        go_wp2_with fail
        refine (peek_any b s (p + 1) _ HI3.out.1 (HT.out.below HI3.out.2).tabs).mono ?_
        rintro e4 w4 ⟨rfl, hb4⟩
        have HI4 := Lib.hid (show WsI b s w w4 (p + 1) from ⟨HI3.out.1.below hb4, HI3.out.2.trans (hb4.mono (Nat.le_of_lt HI3.out.1.lt))⟩)
        clear hb4
        have HS4 := Lib.hid (show spaceF s q (p + 1) (li + 1) (0) = spaceF s (s.size - pos) pos 0 0 by
          have h6 := HS.out
          rw [spaceF, if_pos hlt, HB.out] at h6
          exact h6)
        have hm : s.size - lexPos b w4 < s.size - lexPos b wr := by rw [HI4.out.1.pos, HI.out.1.pos]; omega
        have HM := Lib.hid hm
        clear hm
        go_wp2_with fail
        go_roundw
        case rel => exact ⟨_, p + 1, li + 1, 0, q, rfl, by go_num, by go_num, Lib.hid rfl, HI4, HS4, by omega, by omega, by omega, by omega, by omega⟩
        case measure => exact HM.out
      · subst hrv
        go_wp2_with fail
        refine (isW_any _ _).mono ?_
        rintro e2 w2 ⟨rfl, rfl⟩
        rw [show isW 32 = true from rfl]
        go_wp2_with fail
        refine (next_any b s p hs (by omega) _ HI.out.1 (HT.out.below HI.out.2).tabs).mono ?_
        rintro e3 w3 ⟨rfl, hl3, hb3⟩
        have HI3 := Lib.hid (show WsI b s w w3 (p + 1) from ⟨HN.out ▸ hl3, HI.out.2.trans hb3⟩)
        clear hl3 hb3
        go_wp2_with fail
        refine (peek_any b s (p + 1) _ HI3.out.1 (HT.out.below HI3.out.2).tabs).mono ?_
        rintro e4 w4 ⟨rfl, hb4⟩
        have HI4 := Lib.hid (show WsI b s w w4 (p + 1) from ⟨HI3.out.1.below hb4, HI3.out.2.trans (hb4.mono (Nat.le_of_lt HI3.out.1.lt))⟩)
        clear hb4
        have HS4 := Lib.hid (show spaceF s q (p + 1) (li) (ii + 1) = spaceF s (s.size - pos) pos 0 0 by
          have h6 := HS.out
          rw [spaceF, if_pos hlt, HB.out] at h6
          exact h6)
        have hm : s.size - lexPos b w4 < s.size - lexPos b wr := by rw [HI4.out.1.pos, HI.out.1.pos]; omega
        have HM := Lib.hid hm
        clear hm
        go_wp2_with fail
        go_roundw
        case rel => exact ⟨_, p + 1, li, ii + 1, q, rfl, by go_num, by go_num, Lib.hid rfl, HI4, HS4, by omega, by omega, by omega, by omega, by omega⟩
        case measure => exact HM.out
      · subst hrv
        go_wp2_with fail
        refine (isW_any _ _).mono ?_
        rintro e2 w2 ⟨rfl, rfl⟩
        rw [show isW 9 = true from rfl]
        go_wp2_with fail
        refine (next_any b s p hs (by omega) _ HI.out.1 (HT.out.below HI.out.2).tabs).mono ?_
        rintro e3 w3 ⟨rfl, hl3, hb3⟩
        have HI3 := Lib.hid (show WsI b s w w3 (p + 1) from ⟨HN.out ▸ hl3, HI.out.2.trans hb3⟩)
        clear hl3 hb3
        go_wp2_with fail
        refine (peek_any b s (p + 1) _ HI3.out.1 (HT.out.below HI3.out.2).tabs).mono ?_
        rintro e4 w4 ⟨rfl, hb4⟩
        have HI4 := Lib.hid (show WsI b s w w4 (p + 1) from ⟨HI3.out.1.below hb4, HI3.out.2.trans (hb4.mono (Nat.le_of_lt HI3.out.1.lt))⟩)
        clear hb4
        have HS4 := Lib.hid (show spaceF s q (p + 1) (li) (ii + 8) = spaceF s (s.size - pos) pos 0 0 by
          have h6 := HS.out
          rw [spaceF, if_pos hlt, HB.out] at h6
          exact h6)
        have hm : s.size - lexPos b w4 < s.size - lexPos b wr := by rw [HI4.out.1.pos, HI.out.1.pos]; omega
        have HM := Lib.hid hm
        clear hm
        go_wp2_with fail
        go_roundw
        case rel => exact ⟨_, p + 1, li, ii + 8, q, rfl, by go_num, by go_num, Lib.hid rfl, HI4, HS4, by omega, by omega, by omega, by omega, by omega⟩
        case measure => exact HM.out
      · subst hrv
        go_wp2_with fail
        refine (isW_any _ _).mono ?_
        rintro e2 w2 ⟨rfl, rfl⟩
        rw [show isW 13 = true from rfl]
        go_wp2_with fail
        refine (next_any b s p hs (by omega) _ HI.out.1 (HT.out.below HI.out.2).tabs).mono ?_
        rintro e3 w3 ⟨rfl, hl3, hb3⟩
        have HI3 := Lib.hid (show WsI b s w w3 (p + 1) from ⟨HN.out ▸ hl3, HI.out.2.trans hb3⟩)
        clear hl3 hb3
        go_wp2_with fail
        refine (peek_any b s (p + 1) _ HI3.out.1 (HT.out.below HI3.out.2).tabs).mono ?_
        rintro e4 w4 ⟨rfl, hb4⟩
        have HI4 := Lib.hid (show WsI b s w w4 (p + 1) from ⟨HI3.out.1.below hb4, HI3.out.2.trans (hb4.mono (Nat.le_of_lt HI3.out.1.lt))⟩)
        clear hb4
        have HS4 := Lib.hid (show spaceF s q (p + 1) (li) (ii) = spaceF s (s.size - pos) pos 0 0 by
          have h6 := HS.out
          rw [spaceF, if_pos hlt, HB.out] at h6
          exact h6)
        have hm : s.size - lexPos b w4 < s.size - lexPos b wr := by rw [HI4.out.1.pos, HI.out.1.pos]; omega
        have HM := Lib.hid hm
        clear hm
        go_wp2_with fail
        go_roundw
        case rel => exact ⟨_, p + 1, li, ii, q, rfl, by go_num, by go_num, Lib.hid rfl, HI4, HS4, by omega, by omega, by omega, by omega, by omega⟩
        case measure => exact HM.out
end Go.Proofs.YtpgmnggicmbacaaDoor
namespace Go.Proofs.YtpgmnggicmbacaaDoor
open Go.Shelf Go.RowKit
set_option linter.unusedVariables false
set_option linter.unusedSimpArgs false

/-- A lexer's fields that reading leaves. -/
structure LK where
  f : ByteArray
  g : ByteArray
  src : Value
  fod : Value
  tok : Value
  ts : Int
  tl : Int
  tc : Int
def LexK (w : World) (b : Nat) (s : ByteArray) (K : LK) (pos : Nat) (ls : Int) : Prop :=
  ∃ fr ln, Blk w b 81 (cellsX K.f K.g s K.src K.fod K.tok K.ts K.tl K.tc fr pos ln ls) ∧ 0 ≤ ln ∧ ln ≤ pos + 1 ∧ 0 ≤ ls ∧ ls ≤ pos
theorem LexK.lexer {w : World} {b : Nat} {s : ByteArray} {K : LK} {pos : Nat} {ls : Int} (h : LexK w b s K pos ls) : Lexer w b s pos := by
  obtain ⟨fr, ln, hB, h1, h2, -, -⟩ := h
  exact ⟨_, _, _, _, _, _, _, _, fr, ln, ls, hB, h1, h2⟩
theorem LexK.lt {w : World} {b : Nat} {s : ByteArray} {K : LK} {pos : Nat} {ls : Int} (h : LexK w b s K pos ls) : b < w.heap.size := by
  obtain ⟨fr, ln, hB, -⟩ := h
  exact hB.lt
theorem LexK.below {w w' : World} {b : Nat} {s : ByteArray} {K : LK} {pos : Nat} {ls : Int} (h : LexK w b s K pos ls) (hb : Below w.heap.size w w') : LexK w' b s K pos ls := by
  have hl := h.lt
  obtain ⟨fr, ln, hB, h1⟩ := h
  exact ⟨fr, ln, hB.below hb hl, h1⟩
theorem LexK.belowB {w w' : World} {b B : Nat} {s : ByteArray} {K : LK} {pos : Nat} {ls : Int} (h : LexK w b s K pos ls) (hb : Below B w w') (hl : b < B) : LexK w' b s K pos ls := by
  obtain ⟨fr, ln, hB, h1⟩ := h
  exact ⟨fr, ln, hB.below hb hl, h1⟩
theorem grown_below {w w' : World} (h : Below w.heap.size w w') (row : Option Nat) : w.grownBy w' row := ⟨h.os, h.tape, h.output, h.size, fun k hk _ => h.block k hk⟩
theorem grown_set {w w' : World} {b : Nat} (h : w.grownBy w' (some b)) (i : Nat) (v : Value) : w.grownBy (w'.setCell ⟨b, i, none⟩ v) (some b) :=
  ⟨h.os, h.tape, h.output, by simpa [World.setCell] using h.size, fun k hk hne => (Below.heap_setCell w' ⟨b, i, none⟩ v k (fun e => hne (by rw [e]))).trans (h.block k hk hne)⟩
theorem grown_trans {a c d : World} {row : Option Nat} (h : a.grownBy c row) (k : c.grownBy d row) : a.grownBy d row :=
  ⟨k.os.trans h.os, k.tape.trans h.tape, k.output.trans h.output, Nat.le_trans h.size k.size, fun i hi hne => (k.block i (Nat.lt_of_lt_of_le hi h.size) hne).trans (h.block i hi hne)⟩
theorem grown_toBelow {w w' : World} {b B : Nat} (h : w.grownBy w' (some b)) (hB : B ≤ b) (hs : B ≤ w.heap.size) : Below B w w' :=
  ⟨h.os, h.tape, h.output, h.size, fun k hk => h.block k (by omega) (fun e => by injection e with e; omega)⟩
def lsN (s : ByteArray) (pos : Nat) (ls : Int) : Int := if peekR s pos = 10 then (nextP s pos : Int) else ls
def NkPost (b : Nat) (s : ByteArray) (K : LK) (pos : Nat) (ls : Int) (w : World) (e : Ending) (w' : World) : Prop := e = .returned (.int .i32 (peekR s pos)) ∧ LexK w' b s K (nextP s pos) (lsN s pos ls) ∧ w.grownBy w' (some b)
set_option maxRecDepth 100000 in
set_option maxHeartbeats 3200000 in
theorem nextK (b : Nat) (s : ByteArray) (K : LK) (pos : Nat) (ls : Int) (hs : s.size ≤ 1000000) (hp : pos ≤ s.size + 4) (w : World) (h : LexK w b s K pos ls) (hT : Lib.Utf8Tabs 0 1 w) :
    Calls Tryd.prog 60 #[.pointer (some ⟨b, 0, none⟩)] w (NkPost b s K pos ls w) := by
  obtain ⟨fr, ln, hB, hl0, hl1, hs0, hs1⟩ := h
  obtain ⟨f, g, src, fod, tok, ts, tl, tc⟩ := K
  simp only at hB
  have c2 := hB.cell 2
  have c10 := hB.cell 10
  simp only [cellsX, List.getElem?_toArray, List.getElem?_cons_zero, List.getElem?_cons_succ] at c2 c10
  have HT := Lib.hid hT
  have HB := Lib.hid hB
  have hbl : b < w.heap.size := hB.lt
  have hbw := hbl
  clear hT hB
  by_cases hlt : pos < s.size
  · have hge : decide ((pos : Int) ≥ (s.size : Int)) = false := by simp; omega
    have z0 : (0 : Int) ≤ (pos : Int) := by omega
    have z1 : (pos : Int) ≤ (s.size : Int) := by omega
    unfold NkPost peekR nextP
    rw [if_pos hlt, if_pos hlt]
    have hwl := width_le s pos
    have hwp := width_pos s pos hlt
    go_enter Tryd.func60, Tryd.ntmps60
    go_wp2_with fail
    go_quiet ((fail))
    have HQ := Lib.hid (below_drewB (Below.refl w.heap.size w) nq)
    have c2 : (w.drewN nq).cell? ⟨b, 2, none⟩ = some (.string s) := c2
    have c10 : (w.drewN nq).cell? ⟨b, 10, none⟩ = some (.int .i64 pos) := c10
    have HT1 := Lib.hid (Utf8Tabs_below HT.out HQ.out)
    have HB1 : Hid (Blk (w.drewN nq) b 81 (cellsX f g s src fod tok ts tl tc fr pos ln ls)) := Lib.hid HB.out
    have hbl : b < (w.drewN nq).heap.size := hbl
    clear HT HB
    go_wp2_with fail
    generalize w.drewN nq = w1 at *
    have K := Lib.hid (rune_at s pos hlt w1.drew (Utf8Tabs_below HT1.out (Below.refl _ _).drew))
    generalize hrn : (Utf8.decode s pos).1 = rn at *
    generalize hwd : (Utf8.decode s pos).2 = wd at *
    have HRN := Lib.hid hrn
    have HWD := Lib.hid hwd
    clear hrn hwd
    go_region_held3 (fun w' => Below w1.heap.size w1 w' ∧ w'.cell? ⟨b, 2, none⟩ = some (.string s) ∧ w'.cell? ⟨b, 10, none⟩ = some (.int .i64 pos))
      ((refine keep2x ?_ c2 c10; repeat (first | with_reducible exact Below.refl _ _ | with_reducible exact hk9 | with_reducible apply Below.drew)))
      ((go_at_call 32; refine K.out.mono ?_; rintro e9 w9 ⟨rfl, hb9⟩; have hk9 : Below w1.heap.size w1 w9 := (Below.refl w1.heap.size w1).drew.trans hb9))
    all_goals
      have hB9 := HB1.out.below hk9 hbl
      have f10 := hB9.frozen 10
      have d10 := hB9.cell 10
      simp only [cellsX, List.getElem?_toArray, List.getElem?_cons_zero, List.getElem?_cons_succ] at d10
      have wr1 : IntKind.i64.wrap ((pos : Int) + (wd : Int)) = (pos : Int) + (wd : Int) := IntWalk.i64_in _ (by omega)
      have hb9 : w.grownBy w9 (some b) := grown_below (HQ.out.trans (hk9.mono HQ.out.size)) _
      obtain ⟨v1, hv1⟩ : ∃ v : Value, v = .int .i64 ((pos : Int) + (wd : Int)) := ⟨_, rfl⟩
      have hS4 : Blk (w9.setCell ⟨b, 10, none⟩ (.int .i64 ((pos : Int) + (wd : Int)))) b 81 (cellsX f g s src fod tok ts tl tc fr (pos + wd) ln ls) := by simpa [cellsX] using hB9.set_ 10 (.int .i64 ((pos : Int) + (wd : Int)))
      have e10 := hS4.cell 10
      have e9 := hS4.cell 9
      have f12 := hS4.frozen 12
      have f9 := hS4.frozen 9
      have hS5 : Blk ((w9.setCell ⟨b, 10, none⟩ (.int .i64 ((pos : Int) + (wd : Int)))).setCell ⟨b, 12, none⟩ (.int .i64 ((pos : Int) + (wd : Int)))) b 81 (cellsX f g s src fod tok ts tl tc fr (pos + wd) ln ((pos : Int) + (wd : Int))) := by simpa [cellsX] using hS4.set_ 12 (.int .i64 ((pos : Int) + (wd : Int)))
      have e11 := hS5.cell 11
      have f11 := hS5.frozen 11
      have hS6 : Blk (((w9.setCell ⟨b, 10, none⟩ (.int .i64 ((pos : Int) + (wd : Int)))).setCell ⟨b, 12, none⟩ (.int .i64 ((pos : Int) + (wd : Int)))).setCell ⟨b, 11, none⟩ (.int .i64 (ln + 1))) b 81 (cellsX f g s src fod tok ts tl tc fr (pos + wd) (ln + 1) ((pos : Int) + (wd : Int))) := by simpa [cellsX] using hS5.set_ 11 (.int .i64 (ln + 1))
      have f9' := hS6.frozen 9
      have e12 := hS4.cell 12
      have e9' := hS6.cell 9
      have wln : IntKind.i64.wrap (ln + 1) = ln + 1 := IntWalk.i64_in _ (by omega)
      simp only [cellsX, List.getElem?_toArray, List.getElem?_cons_zero, List.getElem?_cons_succ, Int.natCast_add] at e10 e9 e11 e12 e9'
      have H4 := Lib.hid hS4
      have H6 := Lib.hid hS6
      have HB9 := Lib.hid hb9
      clear hS4 hS5 hS6 hb9 hv1 hB9
      rcases hr : ((rn : Int) == 10) with _ | _
      · have KW := Lib.hid (isW_any (rn : Int) (w9.setCell ⟨b, 10, none⟩ (.int .i64 ((pos : Int) + (wd : Int)))))
        cases fr
        · go_wp2_with fail
          go_ret
          have hrn := HRN.out
          have hwd := HWD.out
          subst hrn hwd
          have h10 : ¬ (((Utf8.decode s pos).1 : Nat) : Int) = 10 := by simpa using hr
          have hls : lsN s pos ls = ls := by unfold lsN peekR; rw [if_pos hlt, if_neg h10]
          rw [hls]
          exact ⟨rfl, ⟨false, ln, H4.out, hl0, by omega, hs0, by omega⟩, grown_set HB9.out _ _⟩
        · go_wp2_with fail
          refine KW.out.mono ?_
          rintro e8 w8 ⟨rfl, rfl⟩
          cases isW (rn : Int)
          · go_wp2_with fail
            go_ret
            have hrn := HRN.out
            have hwd := HWD.out
            subst hrn hwd
            have h10 : ¬ (((Utf8.decode s pos).1 : Nat) : Int) = 10 := by simpa using hr
            have hls : lsN s pos ls = ls := by unfold lsN peekR; rw [if_pos hlt, if_neg h10]
            rw [hls]
            exact ⟨rfl, ⟨false, ln, by simpa [cellsX] using H4.out.set_ 9 (.bool false), hl0, by omega, hs0, by omega⟩, grown_set (grown_set HB9.out _ _) _ _⟩
          · go_wp2_with fail
            go_ret
            have hrn := HRN.out
            have hwd := HWD.out
            subst hrn hwd
            have h10 : ¬ (((Utf8.decode s pos).1 : Nat) : Int) = 10 := by simpa using hr
            have hls : lsN s pos ls = ls := by unfold lsN peekR; rw [if_pos hlt, if_neg h10]
            rw [hls]
            exact ⟨rfl, ⟨true, ln, H4.out, hl0, by omega, hs0, by omega⟩, grown_set HB9.out _ _⟩
      · go_wp2_with fail
        go_ret
        have hrn := HRN.out
        have hwd := HWD.out
        subst hrn hwd
        have h10 : (((Utf8.decode s pos).1 : Nat) : Int) = 10 := by simpa using hr
        have hls : lsN s pos ls = ((pos + (Utf8.decode s pos).2 : Nat) : Int) := by unfold lsN peekR nextP; rw [if_pos hlt, if_pos h10, if_pos hlt]
        rw [hls]
        exact ⟨rfl, ⟨true, ln + 1, by simpa [cellsX] using H6.out.set_ 9 (.bool true), by omega, by omega, by omega, by omega⟩, grown_set (grown_set (grown_set (grown_set HB9.out _ _) _ _) _ _) _ _⟩
  · have hge : decide ((pos : Int) ≥ (s.size : Int)) = true := by simp; omega
    unfold NkPost peekR nextP
    rw [if_neg hlt, if_neg hlt]
    go_enter Tryd.func60, Tryd.ntmps60
    go_wp2_with fail
    go_quiet ((fail))
    go_wp2_with fail
    go_ret
    have hls : lsN s pos ls = ls := by unfold lsN peekR; rw [if_neg hlt, if_neg (by decide)]
    rw [hls]
    exact ⟨rfl, ⟨fr, ln, HB.out, hl0, hl1, hs0, hs1⟩, grown_below (below_drewB (Below.refl _ _) _) _⟩
theorem peekK (b : Nat) (s : ByteArray) (K : LK) (pos : Nat) (ls : Int) (w : World) (h : LexK w b s K pos ls) (hT : Lib.Utf8Tabs 0 1 w) :
    Calls Tryd.prog 58 #[.pointer (some ⟨b, 0, none⟩)] w (PkPost (peekR s pos) w) := peek_any b s pos w h.lexer hT
def MkPost (f g s : ByteArray) (w : World) (e : Ending) (w' : World) : Prop :=
  (∃ b src, e = .returned (.pointer (some ⟨b, 0, none⟩)) ∧ w.heap.size ≤ b ∧ LexK w' b s ⟨f, g, .pointer src, .slice none 0 0, .slice none 0 0, 0, 1, 1⟩ 0 0) ∧ Below w.heap.size w w'
set_option maxRecDepth 100000 in
set_option maxHeartbeats 3200000 in
theorem makeLexerK (f g s : ByteArray) (hs : s.size ≤ 1000000) (w : World) : Calls Tryd.prog 30 #[.string f, .string g, .string s] w (MkPost f g s w) := by
  go_enter Tryd.func30, Tryd.ntmps30
  go_wp2_with (go_at_call 57; refine (BuildSource_any _ s hs _).mono ?_; rintro e1 w1 ⟨⟨g1, rfl⟩, hb1⟩)
  go_ret
  exact ⟨⟨_, _, rfl, hb1.size, true, 1, Blk.new _ _ _, by omega, by omega, by omega, by omega⟩, hb1.alloc hb1.size _⟩
end Go.Proofs.YtpgmnggicmbacaaDoor
namespace Go.Proofs.YtpgmnggicmbacaaDoor
open Go.Shelf Go.RowKit
set_option linter.unusedVariables false
set_option linter.unusedSimpArgs false

theorem LexK.pos {w : World} {b : Nat} {s : ByteArray} {K : LK} {pos : Nat} {ls : Int} (h : LexK w b s K pos ls) : lexPos b w = pos := h.lexer.pos
theorem TabsAt.grown {b : Nat} {w w' : World} (h : TabsAt b w) (hg : w.grownBy w' (some b)) (hl : b < w.heap.size) : TabsAt b w' := h.below (grown_toBelow hg (Nat.le_refl _) (Nat.le_of_lt hl))
def WkPost (b : Nat) (s : ByteArray) (K : LK) (pos : Nat) (w : World) (e : Ending) (w' : World) : Prop :=
  ∃ (l i t : Nat) (ls : Int), e = .returned (.tuple #[.int .i64 l, .int .i64 i]) ∧ pos ≤ t ∧ t ≤ s.size ∧ l ≤ t ∧ LexK w' b s K t ls ∧ w.grownBy w' (some b)
/-- What stands at the head of a round. -/
def WkI (b : Nat) (s : ByteArray) (K : LK) (w wr : World) (pos : Nat) : Prop := (∃ ls, LexK wr b s K pos ls) ∧ w.grownBy wr (some b)
theorem WkI.peek {b : Nat} {s : ByteArray} {K : LK} {w wr w' : World} {pos : Nat} (h : WkI b s K w wr pos) (hb : Below wr.heap.size wr w') : WkI b s K w w' pos := by
  obtain ⟨⟨ls, h1⟩, h2⟩ := h
  exact ⟨⟨ls, h1.below hb⟩, grown_trans h2 (grown_below hb _)⟩
theorem WkI.tabs {b : Nat} {s : ByteArray} {K : LK} {w wr : World} {pos : Nat} (h : WkI b s K w wr pos) (hT : TabsAt b w) (hl : b < w.heap.size) : Lib.Utf8Tabs 0 1 wr := (hT.grown h.2 hl).tabs
theorem WkI.nextC {b : Nat} {s : ByteArray} {K : LK} {w wr : World} {pos : Nat} (h : WkI b s K w wr pos) (hs : s.size ≤ 1000000) (hp : pos ≤ s.size + 4) (hT : TabsAt b w) (hl : b < w.heap.size) :
    Calls Tryd.prog 60 #[.pointer (some ⟨b, 0, none⟩)] wr (fun e w' => e = .returned (.int .i32 (peekR s pos)) ∧ WkI b s K w w' (nextP s pos)) := by
  have hT2 := h.tabs hT hl
  obtain ⟨⟨ls, h1⟩, h2⟩ := h
  refine (nextK b s K pos ls hs hp wr h1 hT2).mono ?_
  rintro e w' ⟨rfl, h3, h4⟩
  exact ⟨rfl, ⟨_, h3⟩, grown_trans h2 h4⟩
theorem WkI.peekC {b : Nat} {s : ByteArray} {K : LK} {w wr : World} {pos : Nat} (h : WkI b s K w wr pos) (hT : TabsAt b w) (hl : b < w.heap.size) :
    Calls Tryd.prog 58 #[.pointer (some ⟨b, 0, none⟩)] wr (fun e w' => e = .returned (.int .i32 (peekR s pos)) ∧ WkI b s K w w' pos) := by
  have hT2 := h.tabs hT hl
  refine (peek_any b s pos wr h.1.choose_spec.lexer hT2).mono ?_
  rintro e w' ⟨rfl, hb⟩
  exact ⟨rfl, h.peek hb⟩
set_option maxRecDepth 100000 in
set_option maxHeartbeats 3200000 in
theorem whiteK (b : Nat) (s : ByteArray) (K : LK) (pos : Nat) (ls : Int) (hs : s.size ≤ 1000000) (hp : pos ≤ s.size) (w : World) (h : LexK w b s K pos ls) (hT : TabsAt b w) :
    Calls Tryd.prog 31 #[.pointer (some ⟨b, 0, none⟩)] w (WkPost b s K pos w) := by
  have hbl : b < w.heap.size := h.lt
  have H := Lib.hid (show WkI b s K w w pos from ⟨⟨ls, h⟩, grown_below (Below.refl _ _) _⟩)
  have HT := Lib.hid hT
  clear h hT
  go_enter Tryd.func31, Tryd.ntmps31
  go_wp2_with fail
  refine (H.out.peekC HT.out hbl).mono ?_
  rintro e1 w1 ⟨rfl, hi1⟩
  have HI := Lib.hid hi1
  clear hi1
  obtain ⟨rr, hrr⟩ : ∃ rr, rr = peekR s pos := ⟨_, rfl⟩
  rw [← hrr]
  have HR := Lib.hid hrr
  clear hrr
  go_wp2_with fail
  go_loopw [4, 5, 6] (fun r i l wr => ∃ (rv : Int) (p li ii : Nat), r = .int .i32 rv ∧ i = .int .i64 ii ∧ l = .int .i64 li ∧ Hid (rv = peekR s p) ∧ Hid (WkI b s K w wr p) ∧ pos ≤ p ∧ p ≤ s.size ∧ li ≤ p ∧ ii ≤ 8 * p) (fun _ _ _ wr => s.size - lexPos b wr)
  case atStart => exact ⟨rr, pos, 0, 0, rfl, rfl, rfl, HR, HI, by omega, by omega, by omega, by omega⟩
  case round =>
    clear HR HI
    obtain ⟨rv, p, li, ii, rfl, rfl, rfl, HR, HI, h2, h3, h4, h5⟩ := hrel
    rcases hw : isW rv with _ | _
    · have HW := Lib.hid hw
      clear hw
      go_wp2_with fail
      refine (isW_any rv _).mono ?_
      rintro e2 w2 ⟨rfl, rfl⟩
      rw [HW.out]
      go_wp2_with fail
      go_ret2
      obtain ⟨⟨ls', hl'⟩, hg'⟩ := HI.out
      exact ⟨li, ii, p, ls', rfl, h2, h3, h4, hl', hg'⟩
    · have hr := HR.out
      have hin := space_in (s := s) (pos := p) (by rw [← hr]; exact hw)
      obtain ⟨hlt, hn, hc⟩ := hin
      rw [← hr] at hc
      have HN := Lib.hid hn
      clear hw hn hr
      rcases hc with ⟨hrv, -⟩ | ⟨hrv, -⟩ | ⟨hrv, -⟩ | ⟨hrv, -⟩
      · subst hrv
        go_wp2_with fail
        refine (isW_any _ _).mono ?_
        rintro e2 w2 ⟨rfl, rfl⟩
        rw [show isW 10 = true from rfl]
        go_wp2_with fail
        refine (HI.out.nextC hs (by omega) HT.out hbl).mono ?_
        rintro e3 w3 ⟨rfl, hi3⟩
        rw [HN.out] at hi3
        have HI3 := Lib.hid hi3
        clear hi3
        go_wp2_with fail
        refine (HI3.out.peekC HT.out hbl).mono ?_
        rintro e4 w4 ⟨rfl, hi4⟩
        have HI4 := Lib.hid hi4
        have hm : s.size - lexPos b w4 < s.size - lexPos b wr := by rw [hi4.1.choose_spec.pos, HI.out.1.choose_spec.pos]; omega
        have HM := Lib.hid hm
        clear hm hi4
        go_wp2_with fail
        go_roundw
        case rel => exact ⟨_, p + 1, li + 1, 0, rfl, by go_num, by go_num, Lib.hid rfl, HI4, by omega, by omega, by omega, by omega⟩
        case measure => exact HM.out
      · subst hrv
        go_wp2_with fail
        refine (isW_any _ _).mono ?_
        rintro e2 w2 ⟨rfl, rfl⟩
        rw [show isW 32 = true from rfl]
        go_wp2_with fail
        refine (HI.out.nextC hs (by omega) HT.out hbl).mono ?_
        rintro e3 w3 ⟨rfl, hi3⟩
        rw [HN.out] at hi3
        have HI3 := Lib.hid hi3
        clear hi3
        go_wp2_with fail
        refine (HI3.out.peekC HT.out hbl).mono ?_
        rintro e4 w4 ⟨rfl, hi4⟩
        have HI4 := Lib.hid hi4
        have hm : s.size - lexPos b w4 < s.size - lexPos b wr := by rw [hi4.1.choose_spec.pos, HI.out.1.choose_spec.pos]; omega
        have HM := Lib.hid hm
        clear hm hi4
        go_wp2_with fail
        go_roundw
        case rel => exact ⟨_, p + 1, li, ii + 1, rfl, by go_num, by go_num, Lib.hid rfl, HI4, by omega, by omega, by omega, by omega⟩
        case measure => exact HM.out
      · subst hrv
        go_wp2_with fail
        refine (isW_any _ _).mono ?_
        rintro e2 w2 ⟨rfl, rfl⟩
        rw [show isW 9 = true from rfl]
        go_wp2_with fail
        refine (HI.out.nextC hs (by omega) HT.out hbl).mono ?_
        rintro e3 w3 ⟨rfl, hi3⟩
        rw [HN.out] at hi3
        have HI3 := Lib.hid hi3
        clear hi3
        go_wp2_with fail
        refine (HI3.out.peekC HT.out hbl).mono ?_
        rintro e4 w4 ⟨rfl, hi4⟩
        have HI4 := Lib.hid hi4
        have hm : s.size - lexPos b w4 < s.size - lexPos b wr := by rw [hi4.1.choose_spec.pos, HI.out.1.choose_spec.pos]; omega
        have HM := Lib.hid hm
        clear hm hi4
        go_wp2_with fail
        go_roundw
        case rel => exact ⟨_, p + 1, li, ii + 8, rfl, by go_num, by go_num, Lib.hid rfl, HI4, by omega, by omega, by omega, by omega⟩
        case measure => exact HM.out
      · subst hrv
        go_wp2_with fail
        refine (isW_any _ _).mono ?_
        rintro e2 w2 ⟨rfl, rfl⟩
        rw [show isW 13 = true from rfl]
        go_wp2_with fail
        refine (HI.out.nextC hs (by omega) HT.out hbl).mono ?_
        rintro e3 w3 ⟨rfl, hi3⟩
        rw [HN.out] at hi3
        have HI3 := Lib.hid hi3
        clear hi3
        go_wp2_with fail
        refine (HI3.out.peekC HT.out hbl).mono ?_
        rintro e4 w4 ⟨rfl, hi4⟩
        have HI4 := Lib.hid hi4
        have hm : s.size - lexPos b w4 < s.size - lexPos b wr := by rw [hi4.1.choose_spec.pos, HI.out.1.choose_spec.pos]; omega
        have HM := Lib.hid hm
        clear hm hi4
        go_wp2_with fail
        go_roundw
        case rel => exact ⟨_, p + 1, li, ii, rfl, by go_num, by go_num, Lib.hid rfl, HI4, by omega, by omega, by omega, by omega⟩
        case measure => exact HM.out
end Go.Proofs.YtpgmnggicmbacaaDoor
namespace Go.Proofs.YtpgmnggicmbacaaDoor
open Go.Shelf Go.RowKit
set_option linter.unusedVariables false
set_option linter.unusedSimpArgs false

def IxPost (w : World) (e : Ending) (w' : World) : Prop := (∃ i : Int, e = .returned (.int .i64 i)) ∧ Below w.heap.size w w'
set_option maxRecDepth 100000 in
set_option maxHeartbeats 3200000 in
theorem index10_any (s : ByteArray) (w : World) : Calls Tryd.prog 97 #[.string s, .int .i32 10] w (IxPost w) := by
  go_enter Tryd.func97, Tryd.ntmps97
  go_wp2_with fail
  go_loopw [5, 6] (fun _ _ wr => ∃ pos : Nat, Hid (Below w.heap.size w wr) ∧ wr.heap[w.heap.size]? = some (.stringIter s pos)) (fun _ _ wr => s.size - wr.iterPos w.heap.size)
  case atStart => exact ⟨0, Lib.hid ((Below.refl _ w).alloc (Nat.le_refl _) _), by simpa using World.iter_heap w s 0⟩
  case round =>
    obtain ⟨pos, HB, hit⟩ := hrel
    by_cases hp : pos < s.size
    · have hnx : ∀ ty, (Instr.next (.pointer (some ⟨w.heap.size, 0, none⟩)) true ty).run Tryd.prog wr = _ := fun ty => Lib.run_next_any_at wr w.heap.size s pos ty hit hp
      have hwd := width_pos s pos hp
      have hit2 := Lib.iterAt_heap wr w.heap.size s pos (pos + (Utf8.decode s pos).2) hit
      have HB2 := Lib.hid (Lib.below_iterAt HB.out (k := w.heap.size) (by omega) s (pos + (Utf8.decode s pos).2))
      have HM := Lib.hid (show s.size - (wr.iterAt w.heap.size s (pos + (Utf8.decode s pos).2)).iterPos w.heap.size < s.size - wr.iterPos w.heap.size by simp only [World.iterPos, hit2, hit]; omega)
      by_cases h10 : ((Utf8.decode s pos).1 : Int) = 10
      · have q1 : (((Utf8.decode s pos).1 : Int) == 10) = true := by simpa using h10
        go_wp2_with fail
        go_ret
        exact ⟨⟨_, rfl⟩, HB2.out⟩
      · have q1 : (((Utf8.decode s pos).1 : Int) == 10) = false := by simpa using h10
        go_wp2_with fail
        go_roundw
        case rel => exact ⟨pos + (Utf8.decode s pos).2, HB2, hit2⟩
        case measure => exact HM.out
    · have hnx : ∀ ty, (Instr.next (.pointer (some ⟨w.heap.size, 0, none⟩)) true ty).run Tryd.prog wr = _ := fun ty => Lib.run_next_end_at wr w.heap.size s pos ty hit hp
      go_wp2_with fail
      go_ret
      exact ⟨⟨_, rfl⟩, HB.out⟩
def CoPost (w : World) (e : Ending) (w' : World) : Prop := (∃ q : Bool, e = .returned (.bool q)) ∧ Below w.heap.size w w'
theorem contains10_any (s : ByteArray) (w : World) : Calls Tryd.prog 72 #[.string s, .int .i32 10] w (CoPost w) := by
  go_enter Tryd.func72, Tryd.ntmps72
  go_wp2_with fail
  refine (index10_any s _).mono ?_
  rintro e1 w1 ⟨⟨i, rfl⟩, hb⟩
  have HB := Lib.hid hb
  clear hb
  go_wp2_with fail
  go_ret
  exact ⟨⟨_, rfl⟩, HB.out⟩
end Go.Proofs.YtpgmnggicmbacaaDoor
