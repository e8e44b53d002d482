/-
  FnStackTrimmed's walk: it answers true.
-/
import Derived.Test.YtkbjcpeogecbgaaStkImpl
import Derived.Test.YtkbjcpeogecbgaaStkCat
import Derived.Deep.QuietTactic
import Derived.BigQuiet
import Derived.IntWalk
namespace Go.Proofs.Ytkbjcpeogecbgaa
open Go.RowKit Go.Maps

def callE (can : Bool) : SE := ⟨1, none, 0, 0, [], ByteArray.empty, 0, can⟩
def locE : SE := ⟨2, none, 0, 0, [], ByteArray.empty, 0, false⟩
def trimE : SE := ⟨4, none, 0, 0, [], ByteArray.empty, 0, false⟩
def allE (es : List SE) (can : Bool) (j : Nat) : List SE := es ++ callE can :: List.replicate j locE
theorem allE_succ (es : List SE) (can : Bool) (j : Nat) : allE es can (j + 1) = allE es can j ++ [locE] := by
  simp [allE, List.replicate_succ']
theorem allE_len (es : List SE) (can : Bool) (j : Nat) : (allE es can j).length = es.length + 1 + j := by
  simp [allE]; omega
def fullE (es : List SE) (can : Bool) (j : Nat) : List SE := allE es can j ++ [trimE]
theorem fullE_len (es : List SE) (can : Bool) (j : Nat) : (fullE es can j).length = es.length + 2 + j := by
  simp [fullE, allE_len]; omega
theorem fullE_mem {es : List SE} {can : Bool} {j : Nat} {e : SE} (h : e ∈ fullE es can j) : e ∈ es ∨ e = callE can ∨ e = locE ∨ e = trimE := by
  simp only [fullE, allE, List.mem_append, List.mem_cons, List.mem_replicate, List.not_mem_nil, or_false] at h
  rcases h with (h | h | ⟨_, h⟩) | h
  · exact .inl h
  · exact .inr (.inl h)
  · exact .inr (.inr (.inl h))
  · exact .inr (.inr (.inr h))
theorem fullE_right {es : List SE} {can : Bool} {j : Nat} (h : ∀ e ∈ es, RightS e) (h2 : ∀ e ∈ es, e.n ≤ 2147483647) : ∀ e ∈ fullE es can j, RightS e ∧ e.n ≤ 2147483647 := by
  intro e he
  rcases fullE_mem he with he | rfl | rfl | rfl
  · exact ⟨h e he, h2 e he⟩
  · exact ⟨⟨(by show (1 : Int) ≤ 1; omega), (by show (1 : Int) ≤ 5; omega), fun h => absurd (show (1 : Int) = 3 from h) (by decide)⟩, (by show 0 ≤ 2147483647; omega)⟩
  · exact ⟨⟨by decide, by decide, fun h => absurd h (by decide)⟩, by decide⟩
  · exact ⟨⟨by decide, by decide, fun h => absurd h (by decide)⟩, by decide⟩
theorem fullE_sound {es : List SE} {can : Bool} {j : Nat} (h : SoundS es) : SoundS (fullE es can j) := by
  intro e he
  rcases fullE_mem he with he | rfl | rfl | rfl
  · exact h e he
  · exact ⟨(by show 0 ≤ maxLen; unfold maxLen; decide), (by show ByteArray.empty.size ≤ maxLen; unfold maxLen; decide), fun s hs => by cases hs⟩
  · exact ⟨by unfold maxLen; decide, by unfold maxLen; decide, fun s hs => by cases hs⟩
  · exact ⟨by unfold maxLen; decide, by unfold maxLen; decide, fun s hs => by cases hs⟩
theorem fullE_steps {es : List SE} {can : Bool} {j N base : Nat} {w w' : World} {B n : Nat} {A : Option Addr} {v : Value} (h : Steps w B A n es) (hb : Below B w w') (hB : B ≤ w'.heap.size) (hN : N = n + 2 + j) (ho : w'.ownsRow base 27 5 v N ((fullE es can j).flatMap cells5)) :
    ∃ A' c', v = .slice A' N c' ∧ Steps w' w'.heap.size A' N (fullE es can j) := by
  obtain ⟨A', c', rfl⟩ : ∃ A c, v = .slice A N c := by
    rcases ho.2 with ⟨rfl, h0⟩ | ⟨g, cap, cur, rfl, _⟩
    · have h1 := ho.1
      rw [h0] at h1
      simp at h1
      omega
    · exact ⟨_, cap, rfl⟩
  refine ⟨A', c', rfl, ⟨by rw [fullE_len, h.1, hN], Reads.of_own ho, fun e he => ?_⟩⟩
  rcases fullE_mem he with he | rfl | rfl | rfl
  · exact Reads.more (Reads.below (h.2.2 e he) hb) hB
  · exact Reads.none_
  · exact Reads.none_
  · exact Reads.none_

def runE (es : List SE) : St := runS ((es.mapIdx cv).map ssOf)
/-- What the two places of the lists say. -/
theorem full_law (es : List SE) (can : Bool) (j : Nat) : ((runE (fullE es can j)).1.length : Int) = (if can = true then ((runE es).1.length : Int) else ((runE es).1.length : Int) + 1 + j) ∧ (runE (fullE es can j)).2 = (if can = true then (runE es).2 else (runE es).2 + 1) := by
  have e : ((fullE es can j).mapIdx cv).map ssOf = (es.mapIdx cv).map ssOf ++ ssOf (cv es.length (callE can)) :: (((List.replicate j locE).mapIdx fun i e => cv (i + 1 + es.length) e).map ssOf ++ [ssOf (cv (es.length + 1 + j) trimE)]) := by
    have e1 : fullE es can j = es ++ (callE can :: (List.replicate j locE ++ [trimE])) := by simp [fullE, allE]
    rw [e1, List.mapIdx_append, List.mapIdx_cons, List.mapIdx_append]
    simp [Nat.add_assoc, Nat.add_comm, Nat.add_left_comm]
  unfold runE
  rw [e]
  have := trim_call ((es.mapIdx cv).map ssOf) (ssOf (cv es.length (callE can))) (((List.replicate j locE).mapIdx fun i e => cv (i + 1 + es.length) e).map ssOf) (ssOf (cv (es.length + 1 + j) trimE)) rfl (fun z hz => by
    obtain ⟨y, hy, rfl⟩ := List.mem_map.1 hz
    obtain ⟨i, hi, rfl⟩ := List.getElem_of_mem hy
    rw [List.getElem_mapIdx]
    simp [ssOf, cv, locE]) rfl
  have hx : (ssOf (cv es.length (callE can))).2.2 = can := rfl
  rw [hx] at this
  simpa using this
theorem full_take (es : List SE) (can : Bool) (j : Nat) : ((fullE es can j).mapIdx cv).take es.length = es.mapIdx cv := by
  have e1 : fullE es can j = es ++ (callE can :: (List.replicate j locE ++ [trimE])) := by simp [fullE, allE]
  rw [e1, List.mapIdx_append, List.take_append_of_le_length (by simp), List.take_of_length_le (by simp)]
theorem lens_at {l : List SS} {n i : Nat} (h : i < n) : (lensV l n)[i]? = some (.int .i64 ((runS (l.take (i + 1))).1.length : Int)) := by
  simp [lensV, h]
theorem calls_at {l : List SS} {n i : Nat} (h : i < n) : (callsV l n)[i]? = some (.int .i64 (runS (l.take (i + 1))).2) := by
  simp [callsV, h]

theorem below_drewN {B : Nat} {a w : World} (h : Below B a w) : ∀ q, Below B a (w.drewN q)
  | 0 => h
  | q + 1 => (below_drewN h q).drew

theorem cells_loc : cells5 locE = [.int .i64 2, .slice none 0 0, .string ByteArray.empty, .int .i64 0, .bool false] := rfl
set_option maxRecDepth 100000 in
set_option maxHeartbeats 3200000 in
theorem stackTrimmed_walk (A : Option Addr) (n c : Nat) (es : List SE) (can : Bool) (q : Int) (hq : 0 ≤ q ∧ q ≤ 255) (w : World) (h : Steps w w.heap.size A n es) (hn : n ≤ maxLen) (hs : SoundS es) :
    Calls Try.prog 3 #[.slice A n c, .bool can, .int .u8 q] w fun e w' => e = .returned (.bool true) ∧ Below w.heap.size w w' := by
  have hn' := hn
  unfold maxLen at hn
  obtain ⟨hq0, hq1⟩ := hq
  have HH := Lib.hid h
  have HS := Lib.hid hs
  have HL := Lib.hid h.1
  have K1 := Lib.hid (zzFits13_any A n c es w.heap.size w h (Nat.le_refl _) hn' hs)
  clear h hs hn'
  obtain ⟨i0, hi, hz, hsz, hbb⟩ := info_parts info_ss
  go_enter Try.func3, Try.ntmps3
  go_wp2_with fail
  refine K1.out.mono ?_
  rintro e1 w1 ⟨⟨b1, rfl, hg1⟩, hb1⟩
  have HB1 := Lib.hid hb1
  have HG1 := Lib.hid hg1
  have hs1 := hb1.size
  clear hb1 hg1 K1
  cases b1
  · go_wp2_with fail
    go_ret
    exact ⟨rfl, HB1.out⟩
  · by_cases hlo : n < 1
    · go_wp2_with fail
      go_ret
      exact ⟨rfl, HB1.out⟩
    · by_cases hhi : 60 < n
      · go_wp2_with fail
        go_ret
        exact ⟨rfl, HB1.out⟩
      · have K2 := Lib.hid (stackRight_any A n c es w.heap.size w1 (HH.out.below HB1.out (Nat.le_refl _)) (by omega))
        go_wp2_with fail
        refine K2.out.mono ?_
        rintro e2 w2 ⟨⟨b2, rfl, hg2⟩, rfl⟩
        have HG2 := Lib.hid hg2
        clear hg2 K2
        cases b2
        · go_wp2_with fail
          go_ret
          exact ⟨rfl, HB1.out⟩
        · obtain ⟨j, hj, hj10⟩ : ∃ j : Nat, q % 11 = (j : Int) ∧ j ≤ 10 := ⟨(q % 11).toNat, by omega, by omega⟩
          have hn60 : n ≤ 60 := by omega
          have hn1 : 1 ≤ n := by omega
          clear hn hlo hhi
          go_wp2_with fail
          clear hj hq0 hq1
          have hbw : Below w1.heap.size w1 ((w1.alloc (.cells (cells5 (callE can)).toArray 27)).alloc (.cells #[.slice A n c, .slice (some ⟨w1.heap.size, 0, none⟩) 1 1] 22)) := ((Below.refl _ _).alloc (Nat.le_refl _) _).alloc (by simp) _
          have HBW := Lib.hid (HB1.out.trans (hbw.mono hs1))
          have h1 : Steps ((w1.alloc (.cells (cells5 (callE can)).toArray 27)).alloc (.cells #[.slice A n c, .slice (some ⟨w1.heap.size, 0, none⟩) 1 1] 22)) _ A n es := (HH.out.below HBW.out (Nat.le_refl _)).more HBW.out.size
          have hc1 : Blk ((w1.alloc (.cells (cells5 (callE can)).toArray 27)).alloc (.cells #[.slice A n c, .slice (some ⟨w1.heap.size, 0, none⟩) 1 1] 22)) w1.heap.size 27 (cells5 (callE can)).toArray := (Blk.new w1 _ _).alloc _
          have hc2 : Blk ((w1.alloc (.cells (cells5 (callE can)).toArray 27)).alloc (.cells #[.slice A n c, .slice (some ⟨w1.heap.size, 0, none⟩) 1 1] 22)) (w1.heap.size + 1) 22 #[.slice A n c, .slice (some ⟨w1.heap.size, 0, none⟩) 1 1] := by
            have := Blk.new (w1.alloc (.cells (cells5 (callE can)).toArray 27)) 22 #[.slice A n c, .slice (some ⟨w1.heap.size, 0, none⟩) 1 1]
            simpa using this
          have h2 : Steps ((w1.alloc (.cells (cells5 (callE can)).toArray 27)).alloc (.cells #[.slice A n c, .slice (some ⟨w1.heap.size, 0, none⟩) 1 1] 22)) _ (some ⟨w1.heap.size, 0, none⟩) 1 [callE can] :=
            ⟨rfl, Reads.ofBlock (cs := (cells5 (callE can)).toArray) hc1 rfl hc1.lt, fun e he => by rw [List.mem_singleton] at he; subst he; exact Reads.none_⟩
          have K3 := Lib.hid (steps7_any (w1.heap.size + 1) 2 A (some ⟨w1.heap.size, 0, none⟩) n 1 c 1 es [callE can] _ h1 h2 hc2.lt (hc2.cell 0) (hc2.cell 1) (by omega) (by omega))
          clear h1 h2 hc1 hc2 hbw
          refine K3.out.mono ?_
          rintro e3 w3 ⟨⟨v3, rfl, ho3⟩, hb3⟩
          have HB3 := Lib.hid (HBW.out.trans (hb3.mono HBW.out.size))
          have hs3 : w.heap.size ≤ w3.heap.size := HB3.out.size
          obtain ⟨b0, hb0⟩ : ∃ b, b = ((w1.alloc (.cells (cells5 (callE can)).toArray 27)).alloc (.cells #[.slice A n c, .slice (some ⟨w1.heap.size, 0, none⟩) 1 1] 22)).heap.size := ⟨_, rfl⟩
          rw [← hb0] at ho3
          have hb0w : w.heap.size ≤ b0 := by rw [hb0]; exact HBW.out.size
          have hb0s : b0 ≤ w3.heap.size := by rw [hb0]; exact hb3.size
          have ho3' : w3.ownsRow b0 27 5 v3 (n + 1 + 0) ((allE es can 0).flatMap cells5) := by
            have e1 : (es ++ [callE can]).length = n + 1 + 0 := by simp [HL.out]
            have e2 : es ++ [callE can] = allE es can 0 := rfl
            rw [e1, e2] at ho3
            exact ho3
          have HO3 := Lib.hid ho3'
          clear ho3 ho3' hb0 hb3 K3 HBW
          go_wp2_with fail
          go_loopw [8, 9] (fun u t wr => ∃ m : Nat, m ≤ j ∧ t = .int .i64 m ∧ Hid (Below w.heap.size w wr) ∧ b0 ≤ wr.heap.size ∧ Hid (wr.ownsRow b0 27 5 u (n + 1 + m) ((allE es can m).flatMap cells5))) (fun _ t _ => j - (intOf t).toNat)
          case atStart => exact ⟨0, Nat.zero_le _, rfl, HB3, hb0s, HO3⟩
          case round =>
            obtain ⟨m, hm, rfl, HB, hbr, HU⟩ := hrel
            have hbs := HB.out.size
            by_cases hlt : m < j
            · go_wp2_with (at_builtin; refine wpList_append_x _ rfl (.tmp 46) (.tmp 48) 22 rfl b0 27 i0 _ 5 64 Try.underlying22 hi hz hsz hbb rfl (by omega) u8 (n + 1 + m) ((allE es can m).flatMap cells5) rfl (HU.out.alloc _) (wr.heap.size + 1) (some ⟨wr.heap.size, 0, none⟩) 1 1 (cells5 locE) rfl (Reads.ofBlock (cs := (cells5 locE).toArray) (heap_alloc_new wr _) rfl (by omega)) (by simp [cells5, Value.oneCell']) (.inr (by omega)) (by unfold maxLen; omega) (by omega) (by simp; omega) (wr.heap.size + 1) (by simp) ?_; intro g2 cap2 w2 hown2 hgrow2 hat2 hlt2)
              have hb2 : Below w.heap.size w w2 := (HB.out.alloc hbs _).grown hgrow2 (by simp; omega) (fun x hx => Nat.le_trans hb0w (HU.out.lt x hx).1)
              have hs2 := hgrow2.size
              simp at hs2
              clear hgrow2 hat2
              go_roundw
              case rel => exact ⟨m + 1, by omega, by go_num, Lib.hid hb2, by omega, Lib.hid (by rw [allE_succ, List.flatMap_append]; exact hown2)⟩
              case measure => simp [intOf]; omega
            · obtain rfl : m = j := by omega
              go_wp2_with (at_builtin; refine wpList_append_x _ rfl (.tmp 50) (.tmp 52) 22 rfl b0 27 i0 _ 5 64 Try.underlying22 hi hz hsz hbb rfl (by omega) u8 (n + 1 + m) ((allE es can m).flatMap cells5) rfl (HU.out.alloc _) (wr.heap.size + 1) (some ⟨wr.heap.size, 0, none⟩) 1 1 (cells5 trimE) rfl (Reads.ofBlock (cs := (cells5 trimE).toArray) (heap_alloc_new wr _) rfl (by omega)) (by simp [cells5, Value.oneCell']) (.inr (by omega)) (by unfold maxLen; omega) (by omega) (by simp; omega) (wr.heap.size + 1) (by simp) ?_; intro g2 cap2 w2 hown2 hgrow2 hat2 hlt2)
              have hb2 : Below w.heap.size w w2 := (HB.out.alloc hbs _).grown hgrow2 (by simp; omega) (fun x hx => Nat.le_trans hb0w (HU.out.lt x hx).1)
              have hs2 : w.heap.size ≤ w2.heap.size := hb2.size
              obtain ⟨A6, c6, hv6, hst⟩ := fullE_steps (j := m) (can := can) HH.out hb2 hs2 (by omega) (show w2.ownsRow b0 27 5 _ (n + 1 + m + 1) ((fullE es can m).flatMap cells5) by
                unfold fullE
                rw [List.flatMap_append]
                exact hown2)
              injection hv6 with hv6 _ hv7
              subst hv6 hv7
              have K4 := Lib.hid (stack_any _ (n + 1 + m + 1) cap2 (fullE es can m) w2.heap.size w2 hst (Nat.le_refl _) (by omega) (fullE_right (HG2.out (by first | trivial | rfl)) (HG1.out (by first | trivial | rfl))) (fullE_sound HS.out))
              have HB2 := Lib.hid hb2
              clear hgrow2 hat2 hown2 hst hb2
              refine K4.out.mono ?_
              rintro e5 w5 ⟨⟨A0, A1, A2, c0, c1, c2, rfl, r1, r2⟩, hb5⟩
              have HB5 := Lib.hid (HB2.out.trans (hb5.mono hs2))
              obtain ⟨T, hT⟩ : ∃ T, T = ((fullE es can m).mapIdx cv).map ssOf := ⟨_, rfl⟩
              rw [← hT] at r1 r2
              have hTl : T.length = n + 1 + m + 1 := by rw [hT]; simp [fullE_len, HL.out]; omega
              have hTn : T.take n = (es.mapIdx cv).map ssOf := by rw [hT, ← List.map_take, ← HL.out, full_take]
              obtain ⟨k, rfl⟩ : ∃ k, n = k + 1 := ⟨n - 1, by omega⟩
              have law := full_law es can m
              have eF : runE (fullE es can m) = runS T := by rw [hT]; rfl
              have eE : runE es = runS (T.take (k + 1)) := by rw [hTn]; rfl
              rw [eF, eE] at law
              obtain ⟨ad1, rfl, -, g1⟩ := r1.2 (by omega)
              obtain ⟨ad2, rfl, -, g3⟩ := r2.2 (by omega)
              have x1 := g1 k _ (lens_at (by omega))
              have x2 := g1 (k + 1 + 1 + m) _ (lens_at (by omega))
              have x3 := g3 k _ (calls_at (by omega))
              have x4 := g3 (k + 1 + 1 + m) _ (calls_at (by omega))
              have hTt : T.take (k + 1 + 1 + m + 1) = T := List.take_of_length_le (by omega)
              rw [hTt] at x2 x4
              have bd1 := runS_bd T (k + 1)
              generalize runS (T.take (k + 1)) = s1 at *
              generalize runS T = s2 at *
              obtain ⟨F1, d1⟩ := s1
              obtain ⟨F2, d2⟩ := s2
              simp only at x1 x2 x3 x4 law bd1
              obtain ⟨bd1, bd2, bd3⟩ := bd1
              have HLaw := Lib.hid law
              clear hT hTl hTn law eF eE r1 r2 g1 g3 hTt K4 hb5
              generalize F1.length = f1 at *
              generalize F2.length = f2 at *
              go_wp2_with fail
              have i1 : IntKind.i64.wrap (((k + 1 : Nat) : Int) - 1) = (k : Int) := by
                rw [IntWalk.i64_in _ (by omega)]; omega
              have i2 : IntKind.i64.wrap ((k : Int) + 1 - 1) = (k : Int) := by
                rw [IntWalk.i64_in _ (by omega)]; omega
              have i3 : IntKind.i64.wrap (k : Int) = (k : Int) := IntWalk.i64_in _ (by omega)
              have i4 : (0 : Int) ≤ (k : Int) := Int.natCast_nonneg _
              have i5 : (k : Int) < ((k + 1 + 1 + m + 1 : Nat) : Int) := by omega
              go_quiet ((fail))
              clear i1 i2 i3
              obtain ⟨l1, l2⟩ := HLaw.out
              cases can
              · simp only [Bool.false_eq_true, if_false] at l1 l2
                obtain rfl : f2 = f1 + 1 + m := by omega
                subst l2
                clear l1
                go_wp2_with fail
                go_ret
                exact ⟨rfl, below_drewN HB5.out _⟩
              · simp only [if_true] at l1 l2
                obtain rfl : f2 = f1 := by omega
                subst l2
                clear l1
                go_wp2_with fail
                go_ret
                exact ⟨rfl, below_drewN HB5.out _⟩
end Go.Proofs.Ytkbjcpeogecbgaa
