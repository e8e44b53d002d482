/-
  A buffer's length; a buffer cut short.
-/
import Derived.Test.YtpgmnggicmbacaaDoorSyBufK
import Derived.Test.YtpgmnggicmbacaaDoorSyAny
namespace Go.Proofs.YtpgmnggicmbacaaDoor
open Go.Shelf Go.RowKit
set_option linter.unusedVariables false
set_option linter.unusedSimpArgs false

theorem byteCells_take (l : List UInt8) (n : Nat) : (Lib.byteCells l).take n = Lib.byteCells (l.take n) := by
  simp [Lib.byteCells, List.map_take]
set_option maxRecDepth 100000 in
theorem TbI.lenC {b : Nat} {s : ByteArray} {K : LK} {w0 wr : World} {c pos : Nat} {v : List UInt8} (h : TbI b s K w0 c wr pos v) (hv : v.length ≤ 1000000000) :
    Calls Tryd.prog 87 #[.pointer (some ⟨c, 0, none⟩)] wr (fun e w' => e = .returned (.int .i64 v.length) ∧ TbI b s K w0 c w' pos v) := by
  have H := Lib.hid h
  obtain ⟨hB, u, lr, hbk, hown, hne⟩ := h.2.1
  have c0 : wr.cell? ⟨c, 0, none⟩ = some u := (show Blk wr c 86 _ from hbk).cell 0
  have c1 : wr.cell? ⟨c, 1, none⟩ = some (.int .i64 0) := (show Blk wr c 86 _ from hbk).cell 1
  have hl : (Lib.byteCells v).length = v.length := Lib.byteCells_length v
  obtain ⟨A, cap, rfl⟩ : ∃ A cap, u = .slice A v.length cap := by
    rcases hown.2 with ⟨e1, e2⟩ | ⟨g, cap, cur, e1, -⟩
    · rw [hl] at e2
      exact ⟨none, 0, by rw [e1, e2]⟩
    · rw [hl] at e1
      exact ⟨_, _, e1⟩
  clear h hB hbk hown hne hl
  go_enter Tryd.func87, Tryd.ntmps87
  go_wp2_with fail
  go_quiet ((fail))
  have H1 := Lib.hid (H.out.below (below_drewB (Below.refl _ _) nq))
  go_wp2_with fail
  go_ret
  exact ⟨rfl, H1.out⟩
theorem TbI.noRead {b : Nat} {s : ByteArray} {K : LK} {w0 wr : World} {c pos : Nat} {v : List UInt8} (h : TbI b s K w0 c wr pos v) : TbI b s K w0 c (wr.setCell ⟨c, 2, none⟩ (.int .i8 0)) pos v := by
  have hle := h.le
  obtain ⟨⟨⟨ls, h1⟩, h2⟩, ⟨hB, u, lr, hbk, hown, hne⟩, h3⟩ := h
  have hb : Below c wr (wr.setCell ⟨c, 2, none⟩ (.int .i8 0)) := (Below.refl wr.heap.size wr).mono hle |>.setCell (p := ⟨c, 2, none⟩) (Nat.le_refl _) _
  refine ⟨⟨⟨ls, h1.belowB hb h3.1⟩, grown_belowB h2 hb h3.2⟩, ⟨hB, u, 0, ?_, ?_, hne⟩, h3⟩
  · have := Blk.set_ (t := 86) hbk 2 (.int .i8 0)
    simpa [Blk] using this
  · refine ⟨hown.1, ?_⟩
    rcases hown.2 with hn | ⟨g, cap, cur, rfl, hg, hgg, rest⟩
    · exact .inl hn
    · exact .inr ⟨g, cap, cur, rfl, hg, (Below.heap_setCell wr ⟨c, 2, none⟩ _ g (fun e => hne (by simp [Value.ownBlock]; simpa using e))).trans hgg, rest⟩
set_option maxRecDepth 100000 in
set_option maxHeartbeats 1600000 in
set_option linter.unusedSimpArgs false in
theorem TbI.cutC {b : Nat} {s : ByteArray} {K : LK} {w0 wr : World} {c pos : Nat} {v : List UInt8} (h : TbI b s K w0 c wr pos v) (n : Nat) (hn : n ≤ v.length) (hv : v.length ≤ 1000000000) :
    Calls Tryd.prog 94 #[.pointer (some ⟨c, 0, none⟩), .int .i64 n] wr (fun e w' => NoRes e ∧ TbI b s K w0 c w' pos (v.take n)) := by
  have H := Lib.hid h
  have hle := h.le
  by_cases h0 : n = 0
  · subst h0
    clear h
    go_enter Tryd.func94, Tryd.ntmps94
    go_wp2_with fail
    refine (buf_reset c c _ wr H.out.2.1).mono ?_
    rintro e1 w1 ⟨rfl, g1, b1, -⟩
    have G1 := Lib.hid (And.intro g1 b1)
    clear g1 b1
    go_wp2_with fail
    refine bodyPost_ret (v := .tuple #[]) (by simp [results, Tryd.results94, go_sem]) rfl ?_
    obtain ⟨⟨⟨ls, h1⟩, h2⟩, -, h3⟩ := H.out
    exact ⟨rfl, ⟨⟨ls, h1.belowB G1.out.2 h3.1⟩, grown_belowB h2 G1.out.2 h3.2⟩, by simpa [Lib.byteCells] using G1.out.1, h3⟩
  · have f2 : wr.frozen? ⟨c, 2, none⟩ = false := by
      obtain ⟨hB, u, lr, hbk, hown, hne⟩ := h.2.1
      exact (show Blk wr c 86 _ from hbk).frozen 2
    obtain ⟨lr, c2⟩ : ∃ lr, wr.cell? ⟨c, 2, none⟩ = some (.int .i8 lr) := by
      obtain ⟨hB, u, lr, hbk, hown, hne⟩ := h.2.1
      exact ⟨lr, (show Blk wr c 86 _ from hbk).cell 2⟩
    have H1 := Lib.hid h.noRead
    have q0 : ((n : Int) == 0) = false := by simp; omega
    have q1 : ¬ (n : Int) < 0 := by omega
    have q2 : (n : Int) ≤ (v.length : Int) := by omega
    have hn1 : 1 ≤ n := by omega
    clear h h0
    go_enter Tryd.func94, Tryd.ntmps94
    go_wp2_with fail
    refine (H1.out.lenC hv).mono ?_
    rintro e1 w1 ⟨rfl, h2⟩
    have H2 := Lib.hid h2
    obtain ⟨hB, u, lr2, hbk, hown, hne⟩ := h2.2.1
    have hBk : Blk w1 c 86 #[u, .int .i64 0, .int .i8 lr2] := hbk
    have c0 := hBk.cell 0
    have c1 := hBk.cell 1
    have f0 := hBk.frozen 0
    simp only [List.getElem?_toArray, List.getElem?_cons_zero, List.getElem?_cons_succ] at c0 c1
    have hl : (Lib.byteCells v).length = v.length := Lib.byteCells_length v
    obtain ⟨g, cap, cur, rfl, hg, hgg, hnc, hcm, hcs, htk⟩ : ∃ g cap cur, u = .slice (some ⟨g, 0, none⟩) v.length cap ∧ c ≤ g ∧ w1.heap[g]? = some (.cells cur 5 (0, 0)) ∧ v.length ≤ cap ∧ cap ≤ maxLen ∧ cur.size = cap * 1 ∧ cur.toList.take (v.length * 1) = Lib.byteCells v := by
      rcases hown.2 with ⟨e1, e2⟩ | ⟨g, cap, cur, e1, e2⟩
      · rw [hl] at e2
        omega
      · rw [hl] at e1 e2
        exact ⟨g, cap, cur, e1, e2⟩
    have HK := Lib.hid (And.intro hBk (And.intro hg (And.intro hgg (And.intro hcm (And.intro hcs (And.intro htk (And.intro hB hne)))))))
    have wn : IntKind.i64.wrap (n : Int) = (n : Int) := IntWalk.i64_in _ (by omega)
    have hnn : n ≤ cap := by omega
    have i0 : (0 : Int) ≤ (n : Int) := by omega
    have i1 : (n : Int) ≤ (cap : Int) := by omega
    clear h2 hB hbk hown hne hl hg hgg hcm hcs htk hBk c2 f2
    go_wp2_with fail
    have hS : w1.drew.cell? ⟨c, 0, none⟩ = some (.slice (some ⟨g, 0, none⟩) v.length cap) ∧ w1.drew.cell? ⟨c, 1, none⟩ = some (.int .i64 0) := ⟨c0, c1⟩
    go_upto_region 5 with fail
    refine but_start (n := 14) (S := fun w' => w'.cell? ⟨c, 0, none⟩ = some (.slice (some ⟨g, 0, none⟩) v.length cap) ∧ w'.cell? ⟨c, 1, none⟩ = some (.int .i64 0)) (by kernel_rfl) (by kernel_rfl) ?_
    refine' but_take (i := 0) (v := _) rfl (by kernel_rfl) (by kernel_rfl) (by kernel_rfl) (by kernel_rfl) (by kernel_rfl) (by kernel_rfl) (fun _ _ _ h => h) (Or.inl ⟨by rfl, ?hy0⟩) hS ?rest0
    case hy0 =>
      intro x hx
      obtain ⟨x0, x1⟩ := hx
      go_simp
      try with_reducible rfl
    try simp only [Act.put, List.setIfInBounds_toArray, List.set_cons_zero, List.set_cons_succ]
    refine' but_take (i := 1) (v := _) rfl (by kernel_rfl) (by kernel_rfl) (by kernel_rfl) (by kernel_rfl) (by kernel_rfl) (by kernel_rfl) (fun _ _ _ h => h) (Or.inl ⟨by rfl, ?hy1⟩) hS ?rest1
    case hy1 =>
      intro x hx
      obtain ⟨x0, x1⟩ := hx
      go_simp
      try with_reducible rfl
    try simp only [Act.put, List.setIfInBounds_toArray, List.set_cons_zero, List.set_cons_succ]
    refine' but_take (i := 2) (v := _) rfl (by kernel_rfl) (by kernel_rfl) (by kernel_rfl) (by kernel_rfl) (by kernel_rfl) (by kernel_rfl) (fun _ _ _ h => h) (Or.inl ⟨by rfl, ?hy2⟩) hS ?rest2
    case hy2 =>
      intro x hx
      obtain ⟨x0, x1⟩ := hx
      go_simp
      try with_reducible rfl
    try simp only [Act.put, List.setIfInBounds_toArray, List.set_cons_zero, List.set_cons_succ]
    refine' but_take (i := 3) (v := _) rfl (by kernel_rfl) (by kernel_rfl) (by kernel_rfl) (by kernel_rfl) (by kernel_rfl) (by kernel_rfl) (fun _ _ _ h => h) (Or.inl ⟨by rfl, ?hy3⟩) hS ?rest3
    case hy3 =>
      intro x hx
      obtain ⟨x0, x1⟩ := hx
      go_simp
      try with_reducible rfl
    try simp only [Act.put, List.setIfInBounds_toArray, List.set_cons_zero, List.set_cons_succ]
    refine' but_take (i := 4) (v := _) rfl (by kernel_rfl) (by kernel_rfl) (by kernel_rfl) (by kernel_rfl) (by kernel_rfl) (by kernel_rfl) (fun _ _ _ h => h) (Or.inl ⟨by rfl, ?hy4⟩) hS ?rest4
    case hy4 =>
      intro x hx
      obtain ⟨x0, x1⟩ := hx
      go_simp
      try with_reducible rfl
    try simp only [Act.put, List.setIfInBounds_toArray, List.set_cons_zero, List.set_cons_succ]
    refine' but_take (i := 5) (v := _) rfl (by kernel_rfl) (by kernel_rfl) (by kernel_rfl) (by kernel_rfl) (by kernel_rfl) (by kernel_rfl) (fun _ _ _ h => h) (Or.inl ⟨by rfl, ?hy5⟩) hS ?rest5
    case hy5 =>
      intro x hx
      obtain ⟨x0, x1⟩ := hx
      go_simp
      try with_reducible rfl
    try simp only [Act.put, List.setIfInBounds_toArray, List.set_cons_zero, List.set_cons_succ]
    refine' but_take (i := 6) (v := _) rfl (by kernel_rfl) (by kernel_rfl) (by kernel_rfl) (by kernel_rfl) (by kernel_rfl) (by kernel_rfl) (fun _ _ _ h => h) (Or.inl ⟨by rfl, ?hy6⟩) hS ?rest6
    case hy6 =>
      intro x hx
      obtain ⟨x0, x1⟩ := hx
      go_simp
      try with_reducible rfl
    try simp only [Act.put, List.setIfInBounds_toArray, List.set_cons_zero, List.set_cons_succ]
    refine' but_take (i := 7) (v := _) rfl (by kernel_rfl) (by kernel_rfl) (by kernel_rfl) (by kernel_rfl) (by kernel_rfl) (by kernel_rfl) (fun _ _ _ h => h) (Or.inl ⟨by rfl, ?hy7⟩) hS ?rest7
    case hy7 =>
      intro x hx
      obtain ⟨x0, x1⟩ := hx
      go_simp
      try with_reducible rfl
    try simp only [Act.put, List.setIfInBounds_toArray, List.set_cons_zero, List.set_cons_succ]
    refine' but_take (i := 8) (v := _) rfl (by kernel_rfl) (by kernel_rfl) (by kernel_rfl) (by kernel_rfl) (by kernel_rfl) (by kernel_rfl) (fun _ _ _ h => h) (Or.inl ⟨by rfl, ?hy8⟩) hS ?rest8
    case hy8 =>
      intro x hx
      obtain ⟨x0, x1⟩ := hx
      go_simp
      try with_reducible rfl
    try simp only [Act.put, List.setIfInBounds_toArray, List.set_cons_zero, List.set_cons_succ]
    refine' but_take (i := 9) (v := _) rfl (by kernel_rfl) (by kernel_rfl) (by kernel_rfl) (by kernel_rfl) (by kernel_rfl) (by kernel_rfl) (fun _ _ _ h => h) (Or.inl ⟨by rfl, ?hy9⟩) hS ?rest9
    case hy9 =>
      intro x hx
      obtain ⟨x0, x1⟩ := hx
      go_simp
      try with_reducible rfl
    try simp only [Act.put, List.setIfInBounds_toArray, List.set_cons_zero, List.set_cons_succ]
    refine' but_take (i := 10) (v := _) rfl (by kernel_rfl) (by kernel_rfl) (by kernel_rfl) (by kernel_rfl) (by kernel_rfl) (by kernel_rfl) (fun _ _ _ h => h) (Or.inl ⟨by rfl, ?hy10⟩) hS ?rest10
    case hy10 =>
      intro x hx
      obtain ⟨x0, x1⟩ := hx
      go_simp
      try with_reducible rfl
    try simp only [Act.put, List.setIfInBounds_toArray, List.set_cons_zero, List.set_cons_succ]
    refine' but_take (i := 11) (v := _) rfl (by kernel_rfl) (by kernel_rfl) (by kernel_rfl) (by kernel_rfl) (by kernel_rfl) (by kernel_rfl) (fun _ _ _ h => h) (Or.inl ⟨by rfl, ?hy11⟩) hS ?rest11
    case hy11 =>
      intro x hx
      obtain ⟨x0, x1⟩ := hx
      go_simp
      try with_reducible rfl
    try simp only [Act.put, List.setIfInBounds_toArray, List.set_cons_zero, List.set_cons_succ]
    refine' but_take (i := 12) (v := _) rfl (by kernel_rfl) (by kernel_rfl) (by kernel_rfl) (by kernel_rfl) (by kernel_rfl) (by kernel_rfl) (fun _ _ _ h => h) (Or.inl ⟨by rfl, ?hy12⟩) hS ?rest12
    case hy12 =>
      intro x hx
      obtain ⟨x0, x1⟩ := hx
      go_simp
      try with_reducible rfl
    try simp only [Act.put, List.setIfInBounds_toArray, List.set_cons_zero, List.set_cons_succ]
    refine' but_take (i := 13) (v := _) rfl (by kernel_rfl) (by kernel_rfl) (by kernel_rfl) (by kernel_rfl) (by kernel_rfl) (by kernel_rfl) (fun _ _ _ h => h) (Or.inl ⟨by rfl, ?hy13⟩) hS ?rest13
    case hy13 =>
      intro x hx
      obtain ⟨x0, x1⟩ := hx
      go_simp
      try with_reducible rfl
    try simp only [Act.put, List.setIfInBounds_toArray, List.set_cons_zero, List.set_cons_succ]
    refine but_last rfl (by kernel_rfl) (by kernel_rfl) ?_
    intro K14 hK14
    go_simp
    refine hK14.out _ _ ?_
    clear hK14 K14 hS
    go_wp2_with fail
    go_end0
    obtain ⟨hBk, hg, hgg, hcm, hcs, htk, hne⟩ := HK.out
    obtain ⟨⟨⟨ls, h1⟩, h2⟩, -, h3⟩ := H2.out
    have hb : Below c w1 (w1.setCell ⟨c, 0, none⟩ (.slice (some ⟨g, 0, none⟩) n cap)) := (Below.refl w1.heap.size w1).mono (Nat.le_of_lt hBk.lt) |>.setCell (p := ⟨c, 0, none⟩) (Nat.le_refl _) _
    have hb2 : Below c w1 (w1.setCell ⟨c, 0, none⟩ (.slice (some ⟨g, 0, none⟩) n cap)).drew := hb.drew
    have hgc : g ≠ c := fun e => hne.2 (by rw [e]; rfl)
    refine ⟨rfl, ⟨⟨ls, h1.belowB hb2 h3.1⟩, grown_belowB h2 hb2 h3.2⟩, ⟨hne.1, .slice (some ⟨g, 0, none⟩) n cap, lr2, ?_, ?_, by simpa [Value.ownBlock] using hgc⟩, h3⟩
    · have := Blk.set_ hBk 0 (.slice (some ⟨g, 0, none⟩) n cap)
      simp only [List.setIfInBounds_toArray, List.set_cons_zero] at this
      exact this
    · have hlen : (Lib.byteCells (v.take n)).length = n := by rw [Lib.byteCells_length, List.length_take]; omega
      refine ⟨by rw [Nat.mul_one], .inr ⟨g, cap, cur, by rw [hlen], hg, (Below.heap_setCell w1 ⟨c, 0, none⟩ _ g hgc).trans hgg, by rw [hlen]; exact hnn, hcm, hcs, ?_⟩⟩
      rw [hlen, Nat.mul_one, ← byteCells_take, ← htk, Nat.mul_one, List.take_take]
      congr 1
      omega
end Go.Proofs.YtpgmnggicmbacaaDoor
