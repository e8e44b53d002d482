/-
  ast.BuildSource: a text cut into lines: something is laid, nothing that was there turns.
-/
import Derived.Test.YtpgmnggicmbacaaGreatDoorWords
import Derived.Test.YtpgmnggicmbacaaGreatDoorLaysR
import Derived.Lib.BufferKept
import Derived.WalkKit
import Derived.BigCall
namespace Go.Proofs.YtpgmnggicmbacaaGreatDoor
open Go.Shelf Go.RowKit

theorem heap_newS (w : World) (o : Obj) : (w.alloc o).heap[w.heap.size]? = some o := heap_alloc_new w o
theorem Reads.ofBlock {w : World} {B size n g : Nat} {cs : Array Value} {t : TypeId} {fr : Nat × Nat} (h : w.heap[g]? = some (.cells cs t fr)) (hs : cs.size = n * size) (hg : g < B) : Reads w B size (some ⟨g, 0, none⟩) n cs.toList :=
  ⟨by simpa using hs, fun _ => ⟨_, rfl, hg, World.news_of_block h⟩⟩
/-- A row of another kind grows: the buffer stays. -/
theorem buf_grown {T e te : TypeId} {B b base n : Nat} {bs xs : List Value} {u : Value} {w w2 : World} (h : Lib.IsBuffer T e B b bs w) (hu : w.ownsRow base te 1 u n xs) (h1 : te ≠ T) (h2 : te ≠ e) (hg : w.grownBy w2 u.ownBlock) : Lib.IsBuffer T e B b bs w2 := by
  have hlt := h.lt
  obtain ⟨hB, v, lr, hbk, hown, hne⟩ := h
  refine ⟨hB, v, lr, (hg.block b hlt (fun e => own_blk_ne hu hbk h1 e.symm)).trans hbk, ⟨hown.1, ?_⟩, hne⟩
  rcases hown.2 with hn | ⟨g, cap, cur, hv, hbg, hgg, rest⟩
  · exact .inl hn
  · exact .inr ⟨g, cap, cur, hv, hbg, (hg.block g (Array.getElem?_eq_some_iff.1 hgg).1 (fun e => own_blk_ne hu hgg h2 e.symm)).trans hgg, rest⟩
/-- The buffer is written: a row of another kind stays. -/
theorem row_kept {T e te : TypeId} {B b base n : Nat} {bs xs : List Value} {u : Value} {w w2 : World} (h : Lib.IsBuffer T e B b bs w) (hu : w.ownsRow base te 1 u n xs) (h1 : te ≠ T) (h2 : te ≠ e) (hk : Lib.OthersKept e (some b) w w2) : w2.ownsRow base te 1 u n xs := by
  obtain ⟨hB, v, lr, hbk, hown, hne⟩ := h
  refine ⟨hu.1, ?_⟩
  rcases hu.2 with hn | ⟨g, cap, cur, rfl, hbg, hgg, rest⟩
  · exact .inl hn
  · refine .inr ⟨g, cap, cur, rfl, hbg, hk g _ hgg (fun e1 => ?_) (fun c fz e1 => ?_), rest⟩
    · cases e1
      exact own_blk_ne hu hbk h1 rfl
    · injection e1 with _ e2
      exact h2 e2
theorem row_iter {te : TypeId} {base n : Nat} {xs : List Value} {u : Value} {w : World} (hu : w.ownsRow base te 1 u n xs) {k : Nat} {s : ByteArray} {pos : Nat} (hk : w.heap[k]? = some (.stringIter s pos)) (pos' : Nat) : (w.iterAt k s pos').ownsRow base te 1 u n xs := by
  refine ⟨hu.1, ?_⟩
  rcases hu.2 with hn | ⟨g, cap, cur, rfl, hbg, hgg, rest⟩
  · exact .inl hn
  · refine .inr ⟨g, cap, cur, rfl, hbg, ?_, rest⟩
    rw [Lib.iterAt_other w k g s pos' (fun e => by subst e; rw [hgg] at hk; cases hk)]
    exact hgg
theorem own_iter_ne {te : TypeId} {base n : Nat} {xs : List Value} {u : Value} {w : World} (hu : w.ownsRow base te 1 u n xs) {k : Nat} {s : ByteArray} {pos : Nat} (hk : w.heap[k]? = some (.stringIter s pos)) : u.ownBlock ≠ some k := by
  rcases hu.2 with ⟨rfl, _⟩ | ⟨g, cap, cur, rfl, hbg, hgg, rest⟩
  · simp [Value.ownBlock]
  · intro e
    have : g = k := by simpa [Value.ownBlock] using e
    subst this
    rw [hgg] at hk
    cases hk
theorem width_le (s : ByteArray) (pos : Nat) : (Utf8.decode s pos).2 ≤ 4 := by
  simp only [Utf8.decode]
  repeat' split
  all_goals simp_all
theorem width_pos (s : ByteArray) (pos : Nat) (h : pos < s.size) : 1 ≤ (Utf8.decode s pos).2 := by
  by_cases ha : (s[pos]'h).toNat < 128
  · rw [decode_ascii s pos h ha]
    exact Nat.le_refl _
  · exact (decode_high s pos h (by omega)).2
theorem rune_written (B b : Nat) (bs : List Value) (r : Int) (hr0 : -2147483648 ≤ r) (hr1 : r ≤ 2147483647) (w : World) (h : Lib.IsBuffer 73 5 B b bs w) (hBw : B ≤ w.heap.size) (h1 : ∀ v ∈ bs, v.oneCell' = true) (hlim : bs.length + 4 ≤ 140737488355328) :
    Calls Tryz.prog 18 #[.pointer (some ⟨b, 0, none⟩), .int .i32 r] w fun e w' => e = .returned (.tuple #[.int .i64 (Lib.runeCells r).length, .nilIface]) ∧ Lib.IsBuffer 73 5 B b (bs ++ Lib.runeCells r) w' ∧ Below B w w' ∧ Lib.OthersKept 5 (some b) w w' :=
  Any.Buffer_WriteRune_k laysLaysWrn5 B b bs r hr0 hr1 w h hBw h1 hlim
theorem buf_string (B b : Nat) (l : List UInt8) (w : World) (h : Lib.IsBuffer 73 5 B b (Lib.byteCells l) w) :
    Calls Tryz.prog 22 #[.pointer (some ⟨b, 0, none⟩)] w fun e w' => e = .returned (.string ⟨l.toArray⟩) ∧ ∃ n, w' = w.drewN n := Any.Buffer_String laysLaysMn182 B b l w h
theorem buf_reset (B b : Nat) (bs : List Value) (w : World) (h : Lib.IsBuffer 73 5 B b bs w) :
    Calls Tryz.prog 36 #[.pointer (some ⟨b, 0, none⟩)] w fun e w' => e = .returned (.tuple #[]) ∧ Lib.IsBuffer 73 5 B b [] w' ∧ Below B w w' ∧ Lib.OthersKept 5 (some b) w w' := Any.Buffer_Reset_k laysLaysMn184 B b bs w h
theorem info_str : (Tryz.prog.info? 9).map (fun i => (i.zero, i.size, i.bytes)) = some (some (.string ByteArray.empty), 1, 16) := by kernel_rfl
theorem below_drewB {B : Nat} {a w : World} (h : Below B a w) : ∀ q, Below B a (w.drewN q)
  | 0 => h
  | q + 1 => (below_drewB h q).drew
end Go.Proofs.YtpgmnggicmbacaaGreatDoor
