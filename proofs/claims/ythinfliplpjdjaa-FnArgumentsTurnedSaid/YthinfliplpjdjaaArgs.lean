/-
  arguments, params, PartArguments, impl.Arguments: a call goes through just if callOk says so.
-/
import Derived.Test.YthinfliplpjdjaaChk
import Derived.Test.YthinfliplpjdjaaApart
import Derived.Deep.RegionLaw

namespace Go.Proofs.Ythinfliplpjdjaa
open Go.RowKit

theorem intTo_any (i : Int) (w : World) : Calls Try.prog 72 #[.int .i64 i] w fun e w' => e = .returned (.pointer (some ⟨w.heap.size, 0, none⟩)) ∧ w.alloc (.cells #[.float .f64 (floatOfInt .f64 i)] 147) = w' := by
  have k1 : ∀ w, (convert 3 50 (.int .i64 i)).run Try.prog w = .ok (.float .f64 (floatOfInt .f64 i)) w := fun w => run_convert_int_float w _ _ _ _ _ (by kernel_rfl) Try.underlying50
  generalize floatOfInt .f64 i = x at *
  go_enter Try.func72, Try.ntmps72
  go_wp2_with (go_at_call 74; refine (makeNum_any x _).mono ?_; rintro e w' ⟨rfl, rfl⟩)
  go_ret
  exact ⟨rfl, rfl⟩
theorem thunk_any (t : TypeId) (v : Value) (w : World) :
    Calls Try.prog 64 #[.iface t v] w fun e w' => e = .returned (.pointer (some ⟨w.heap.size, 0, none⟩)) ∧ w.alloc (.cells #[.pointer none, .nilIface, .iface t v, .nilIface] 153) = w' := by
  go_enter Try.func64, Try.ntmps64
  go_wp2
  go_ret
  exact ⟨rfl, rfl⟩
theorem info_thp : (Try.prog.info? 145).map (fun i => (i.zero, i.size, i.bytes)) = some (some (.pointer none), 1, 8) := by kernel_rfl
theorem info_nca : (Try.prog.info? 165).map (fun i => (i.zero, i.size, i.bytes)) = some (some (.agg #[.pointer none, .string ByteArray.empty]), 2, 24) := by kernel_rfl
theorem info_npa : (Try.prog.info? 163).map (fun i => (i.zero, i.size, i.bytes)) = some (some (.agg #[.nilIface, .string ByteArray.empty]), 2, 32) := by kernel_rfl
theorem heap_new2 (w : World) (a b o : Obj) : (((w.alloc a).alloc b).alloc o).heap[w.heap.size + 2]? = some o := by
  have := heap_alloc_new ((w.alloc a).alloc b) o
  simpa using this
theorem Reads.ofBlock {w : World} {B size n g : Nat} {cs : Array Value} {t : TypeId} {fr : Nat × Nat} (h : w.heap[g]? = some (.cells cs t fr)) (hs : cs.size = n * size) (hg : g < B) : Reads w B size (some ⟨g, 0, none⟩) n cs.toList :=
  ⟨by simpa using hs, fun _ => ⟨_, rfl, hg, World.news_of_block h⟩⟩

theorem keepB {w : World} {g : Nat} {t : TypeId} {v : Value} {cs : List Value} (h : Blk w g t (v :: cs).toArray) : w.cell? ⟨g, 0, none⟩ = some v ∧ w.frozen? ⟨g, 0, none⟩ = false := ⟨h.cell 0, h.frozen 0⟩
theorem keepA {w : World} {g : Nat} {v : Value} (h : Blk w g 126 #[v, .slice none 0 0, .bool false]) : w.cell? ⟨g, 0, none⟩ = some v ∧ w.frozen? ⟨g, 0, none⟩ = false := ⟨h.cell 0, h.frozen 0⟩
theorem keepC {w : World} {g : Nat} {v0 v : Value} (h : Blk w g 126 #[v0, v, .bool false]) : w.cell? ⟨g, 1, none⟩ = some v ∧ w.frozen? ⟨g, 1, none⟩ = false := ⟨h.cell 1, h.frozen 1⟩
def ArPost (pos : Nat) (N : List ByteArray) (w : World) (e : Ending) (w' : World) : Prop :=
  (∃ Ap cp An cn ns, e = .returned (.agg #[.slice Ap pos cp, .slice An N.length cn, .bool false]) ∧ Pars w' w'.heap.size An N.length ns ∧ namesP ns = N ∧ ∀ e ∈ ns, ∃ p, e.1 = .pointer p) ∧ Below w.heap.size w w'

theorem grownBy_set (w : World) (p : Addr) (v : Value) : w.grownBy (w.setCell p v) (some p.block) :=
  ⟨rfl, rfl, rfl, by simp [World.setCell], fun i _ hi => Below.heap_setCell w p v i (fun e => hi (by rw [e]))⟩
theorem own_set {base e size n g : Nat} {w : World} {v : Value} {xs : List Value} {t : TypeId} {cs : Array Value} (h : w.ownsRow base e size v n xs) (hb : Blk w g t cs) (he : e ≠ t) (k : Nat) (u : Value) : (w.setCell ⟨g, k, none⟩ u).ownsRow base e size v n xs :=
  h.kept (grownBy_set w _ u) (.inr (own_blk_ne h hb he))
/-- A round of a list in a struct: behind the append, and the store of the new slice at place k of the struct. -/
theorem arg_step {e size : Nat} {w wr w2 : World} {v v2 y1 y2 : Value} {n n2 : Nat} {xs xs2 : List Value} {O1 O2 O3 : Obj} {cs : Array Value} (he : e ≠ 126) (HB : Below w.heap.size w wr) (HO : wr.ownsRow w.heap.size e size v n xs) (HK : Blk wr (w.heap.size + 1) 126 cs) (HR : Blk wr w.heap.size 126 #[y1, y2, .bool false])
    (hown2 : w2.ownsRow w.heap.size e size v2 n2 xs2) (hgrow2 : (((wr.alloc O1).alloc O2).alloc O3).drew.grownBy w2 v.ownBlock) (k : Nat) :
    Below w.heap.size w (w2.setCell ⟨w.heap.size + 1, k, none⟩ v2) ∧ (w2.setCell ⟨w.heap.size + 1, k, none⟩ v2).ownsRow w.heap.size e size v2 n2 xs2 ∧ Blk (w2.setCell ⟨w.heap.size + 1, k, none⟩ v2) (w.heap.size + 1) 126 (cs.setIfInBounds k v2) ∧ Blk (w2.setCell ⟨w.heap.size + 1, k, none⟩ v2) w.heap.size 126 #[y1, y2, .bool false] := by
  have hs := HB.size
  have hK := (((HK.alloc O1).alloc O2).alloc O3).drew.grown hgrow2 (fun e0 => own_blk_ne HO HK he e0.symm)
  have hR := (((HR.alloc O1).alloc O2).alloc O3).drew.grown hgrow2 (fun e0 => own_blk_ne HO HR he e0.symm)
  have hb0 : Below w.heap.size w (((wr.alloc O1).alloc O2).alloc O3).drew := (((HB.alloc hs O1).alloc (by simp; omega) O2).alloc (by simp; omega) O3).drew
  refine ⟨?_, ?_, hK.set_ k v2, hR.far (p := ⟨w.heap.size + 1, k, none⟩) (by show w.heap.size ≠ w.heap.size + 1; omega) v2⟩
  · exact (hb0.grown hgrow2 (by simp; omega) (fun j hj => (HO.lt j hj).1)).setCell (p := ⟨w.heap.size + 1, k, none⟩) (by show _ ≤ w.heap.size + 1; omega) v2
  · exact hown2.kept (grownBy_set w2 _ v2) (.inr (own_blk_ne hown2 hK he))
set_option maxRecDepth 100000 in
set_option maxHeartbeats 3200000 in
theorem arguments_any (pos : Nat) (A : Option Addr) (n c : Nat) (N : List ByteArray) (B : Nat) (w : World) (h : Strs w B A n N) (hB : B ≤ w.heap.size) (hpos : pos ≤ 200) (hn : n ≤ 100) :
    Calls Try.prog 56 #[.int .i64 pos, .slice A n c] w (ArPost pos N w) := by
  have HH := Lib.hid h
  have HL := Lib.hid h.len
  clear h
  obtain ⟨i0, hi, hz, hsz, hb⟩ := info_parts info_thp
  obtain ⟨i1, hi1, hz1, hsz1, hb1⟩ := info_parts info_nca
  go_enter Try.func56, Try.ntmps56
  go_wp2
  go_loopw [10] (fun t wr => ∃ i : Nat, i ≤ pos ∧ t = .int .i64 i ∧ Hid (Below w.heap.size w wr) ∧ ∃ v ps, Hid (wr.ownsRow w.heap.size 145 1 v i ps) ∧ Hid (Blk wr (w.heap.size + 1) 126 #[v, .slice none 0 0, .bool false]) ∧ Hid (Blk wr w.heap.size 126 #[.slice none 0 0, .slice none 0 0, .bool false])) (fun t _ => pos - (intOf t).toNat)
  case atStart =>
    refine ⟨0, Nat.zero_le _, rfl, Lib.hid (((Below.refl _ _).alloc (Nat.le_refl _) _).alloc (by simp) _), .slice none 0 0, [], Lib.hid (World.ownsRow_nil _ _ _ _), Lib.hid ?_, Lib.hid ((Blk.new w _ _).alloc _)⟩
    have := Blk.new (w.alloc (.cells #[.slice none 0 0, .slice none 0 0, .bool false] 126)) 126 #[.slice none 0 0, .slice none 0 0, .bool false]
    simpa using this
  case round =>
    obtain ⟨i, hi', rfl, HB, v, ps, HO, HK, HR⟩ := hrel
    by_cases hlt : i < pos
    · have hbs := HB.out.size
      have c0 : wr.cell? ⟨w.heap.size + 1, 0, none⟩ = some v := HK.out.cell 0
      have f0 : wr.frozen? ⟨w.heap.size + 1, 0, none⟩ = false := HK.out.frozen 0
      have hlk := HK.out.lt
      have hfar : some (w.heap.size + 1) ≠ v.ownBlock := fun e => own_blk_ne HO.out HK.out (by decide) e.symm
      obtain ⟨x, hx⟩ : ∃ x, floatOfInt .f64 (i : Int) = x := ⟨_, rfl⟩
      have KI := Lib.hid (fun w => intTo_any (i : Int) w)
      rw [hx] at KI
      clear hx
      go_wp2
      obtain ⟨q0, q0f⟩ := keepA HK.out.drew
      obtain ⟨q1, q1f⟩ := keepA (HK.out.alloc (.cells #[.float .f64 x] 147)).drew
      obtain ⟨q2, q2f⟩ := keepA ((HK.out.alloc (.cells #[.float .f64 x] 147)).alloc (.cells #[.pointer none, .nilIface, .iface 148 (.pointer (some ⟨wr.heap.size, 0, none⟩)), .nilIface] 153)).drew
      obtain ⟨q3, q3f⟩ := keepA (((HK.out.alloc (.cells #[.float .f64 x] 147)).alloc (.cells #[.pointer none, .nilIface, .iface 148 (.pointer (some ⟨wr.heap.size, 0, none⟩)), .nilIface] 153)).alloc (.cells #[.pointer (some ⟨wr.heap.size + 1, 0, none⟩)] 145)).drew
      go_region_law (first
          | (go_simp; go_at_call 72; refine Calls.mono (KI.out _) ?_; rintro e w' ⟨rfl, rfl⟩)
          | (go_simp; go_at_call 64; refine Calls.mono (thunk_any _ _ _) ?_; rintro e w' ⟨rfl, rfl⟩)
          | (refine step_append_x _ (by rfl) _ _ 123 (by rfl) w.heap.size 145 i0 _ 1 8 Try.underlying123 hi hz hsz hb rfl (by omega) v i ps (by rfl) (((HO.out.alloc _).alloc _).alloc _).drew (wr.heap.size + 3) (some ⟨wr.heap.size + 2, 0, none⟩) 1 1 [.pointer (some ⟨wr.heap.size + 1, 0, none⟩)] (by rfl) (Reads.ofBlock (cs := #[.pointer (some ⟨wr.heap.size + 1, 0, none⟩)]) (heap_new2 _ _ _ _) rfl (by omega)) (by simp [Value.oneCell']) (.inr (by omega)) (by unfold maxLen; omega) (by omega) (by simp; omega) (wr.heap.size + 3) (by simp) ?_; intro g2 cap2 w2 hown2 hgrow2 hat2 hlt2; obtain ⟨q4, q4f⟩ := keepA ((((HK.out.alloc _).alloc _).alloc _).drew.grown hgrow2 hfar)))
      all_goals
        have R := arg_step (k := 0) (by decide) HB.out HO.out HK.out HR.out hown2 hgrow2
        go_wp2
        go_roundw
        case rel => exact ⟨i + 1, by omega, by go_num, Lib.hid R.1, _, _, Lib.hid R.2.1, Lib.hid (by simpa using R.2.2.1), Lib.hid R.2.2.2⟩
        case measure => simp [intOf]; omega
    · obtain rfl : i = pos := by omega
      obtain ⟨Ap, cp, rfl⟩ : ∃ Ap cp, v = .slice Ap i cp := by
        rcases HO.out.2 with ⟨rfl, rfl⟩ | ⟨g, cap, cur, rfl, _⟩
        · exact ⟨none, 0, rfl⟩
        · exact ⟨_, cap, rfl⟩
      go_wp2
      go_loopw [25] (fun t wr => ∃ k : Nat, k ≤ n ∧ t = .int .i64 k ∧ Hid (Below w.heap.size w wr) ∧ ∃ u ns, Hid (wr.ownsRow w.heap.size 165 2 u k (ns.flatMap cells2)) ∧ Hid (namesP ns = N.take k ∧ ∀ e ∈ ns, ∃ p, e.1 = .pointer p) ∧ Hid (Blk wr (w.heap.size + 1) 126 #[.slice Ap i cp, u, .bool false]) ∧ Hid (Blk wr w.heap.size 126 #[.slice none 0 0, .slice none 0 0, .bool false])) (fun t _ => n - (intOf t).toNat)
      case atStart => exact ⟨0, Nat.zero_le _, rfl, HB, .slice none 0 0, [], Lib.hid (World.ownsRow_nil _ _ _ _), Lib.hid ⟨rfl, fun e h => (by cases h)⟩, HK, HR⟩
      case round =>
        obtain ⟨k, hk, rfl, HB, u, ns, HU, HN, HK, HR⟩ := hrel
        have hbs := HB.out.size
        by_cases hlt2 : k < n
        · obtain ⟨ad, rfl, hbk, hc0⟩ := HH.out.at_ hlt2
          have hc := (HB.out.cell (p := ad.add k) (by rw [block_of_add]; omega)).trans hc0
          have hkl : k < N.length := by rw [HL.out]; exact hlt2
          have e0 : N.getD k ByteArray.empty = N[k] := by simp [hkl]
          rw [e0] at hc
          have E1 := Lib.hid (List.take_succ_eq_append_getElem hkl)
          clear hc0 e0
          generalize N[k] = s at *
          have hfar : some (w.heap.size + 1) ≠ u.ownBlock := fun e => own_blk_ne HU.out HK.out (by decide) e.symm
          obtain ⟨x, hx⟩ : ∃ x, floatOfInt .f64 (IntKind.i64.wrap ((i : Int) + (k : Int))) = x := ⟨_, rfl⟩
          have KI := Lib.hid (fun w => intTo_any (IntKind.i64.wrap ((i : Int) + (k : Int))) w)
          rw [hx] at KI
          clear hx
          have hlk := HK.out.lt
          go_wp2
          obtain ⟨q0, q0f⟩ := keepC HK.out.drew
          obtain ⟨q1, q1f⟩ := keepC (HK.out.alloc (.cells #[.float .f64 x] 147)).drew
          obtain ⟨q2, q2f⟩ := keepC ((HK.out.alloc (.cells #[.float .f64 x] 147)).alloc (.cells #[.pointer none, .nilIface, .iface 148 (.pointer (some ⟨wr.heap.size, 0, none⟩)), .nilIface] 153)).drew
          obtain ⟨q3, q3f⟩ := keepC (((HK.out.alloc (.cells #[.float .f64 x] 147)).alloc (.cells #[.pointer none, .nilIface, .iface 148 (.pointer (some ⟨wr.heap.size, 0, none⟩)), .nilIface] 153)).alloc (.cells #[.pointer (some ⟨wr.heap.size + 1, 0, none⟩), .string s] 165)).drew
          go_region_law (first
              | (go_simp; go_at_call 72; refine Calls.mono (KI.out _) ?_; rintro e w' ⟨rfl, rfl⟩)
              | (go_simp; go_at_call 64; refine Calls.mono (thunk_any _ _ _) ?_; rintro e w' ⟨rfl, rfl⟩)
              | (refine step_append_x _ (by rfl) _ _ 124 (by rfl) w.heap.size 165 i1 _ 2 24 Try.underlying124 hi1 hz1 hsz1 hb1 rfl (by omega) u k (ns.flatMap cells2) (by rfl) (((HU.out.alloc _).alloc _).alloc _).drew (wr.heap.size + 3) (some ⟨wr.heap.size + 2, 0, none⟩) 1 1 [.pointer (some ⟨wr.heap.size + 1, 0, none⟩), .string s] (by rfl) (Reads.ofBlock (cs := #[.pointer (some ⟨wr.heap.size + 1, 0, none⟩), .string s]) (heap_new2 _ _ _ _) rfl (by omega)) (by simp [Value.oneCell']) (.inr (by omega)) (by unfold maxLen; omega) (by omega) (by simp; omega) (wr.heap.size + 3) (by simp) ?_; intro g2 cap2 w2 hown2 hgrow2 hat2 hlt2; obtain ⟨q4, q4f⟩ := keepC ((((HK.out.alloc _).alloc _).alloc _).drew.grown hgrow2 hfar)))
          all_goals
            have R := arg_step (k := 1) (by decide) HB.out HU.out HK.out HR.out hown2 hgrow2
            go_wp2
            go_roundw
            case rel => exact ⟨k + 1, by omega, by go_num, Lib.hid R.1, _, ns ++ [(.pointer (some ⟨wr.heap.size + 1, 0, none⟩), s)], Lib.hid (by rw [List.flatMap_append]; exact R.2.1), Lib.hid ⟨by rw [E1.out]; simp [namesP, ← HN.out.1], fun e he => by
              rcases List.mem_append.1 he with he | he
              · exact HN.out.2 e he
              · rw [List.mem_singleton] at he
                subst he
                exact ⟨_, rfl⟩⟩, Lib.hid (by simpa using R.2.2.1), Lib.hid R.2.2.2⟩
            case measure => simp [intOf]; omega
        · obtain rfl : k = n := by omega
          obtain ⟨An, cn, rfl⟩ : ∃ An cn, u = .slice An k cn := by
            rcases HU.out.2 with ⟨rfl, h0⟩ | ⟨g, cap, cur, rfl, _⟩
            · exact ⟨none, 0, by rw [h0]⟩
            · exact ⟨_, cap, rfl⟩
          have a0 := HK.out.cell 0
          have a1 := HK.out.cell 1
          have a2 := HK.out.cell 2
          have b0 := HR.out.cell 0
          have b1 := HR.out.cell 1
          have b2 := HR.out.cell 2
          have f0 := HR.out.frozen 0
          have f1 := HR.out.frozen 1
          have f2 := HR.out.frozen 2
          simp only [List.getElem?_toArray, List.getElem?_cons_zero, List.getElem?_cons_succ] at a0 a1 a2 b0 b1 b2
          go_wp2
          generalize hW : ((wr.setCell ⟨w.heap.size, 0, none⟩ (.slice Ap i cp)).setCell ⟨w.heap.size, 1, none⟩ (.slice An k cn)).setCell ⟨w.heap.size, 2, none⟩ (.bool false) = W
          have hb4 : Blk W w.heap.size 126 #[.slice Ap i cp, .slice An k cn, .bool false] := by
            rw [← hW]
            have := ((HR.out.set_ 0 (.slice Ap i cp)).set_ 1 (.slice An k cn)).set_ 2 (.bool false)
            simpa using this
          have hbw : Below w.heap.size w W := by
            rw [← hW]
            exact ((HB.out.setCell (p := ⟨w.heap.size, 0, none⟩) (Nat.le_refl _) _).setCell (p := ⟨w.heap.size, 1, none⟩) (Nat.le_refl _) _).setCell (p := ⟨w.heap.size, 2, none⟩) (Nat.le_refl _) _
          have hu1 := own_set HU.out HR.out (by decide) 0 (.slice Ap i cp)
          have hu2 := own_set hu1 (HR.out.set_ 0 (.slice Ap i cp)) (by decide) 1 (.slice An k cn)
          have hu3 := own_set hu2 ((HR.out.set_ 0 (.slice Ap i cp)).set_ 1 (.slice An k cn)) (by decide) 2 (.bool false)
          rw [hW] at hu3
          have hpar : Pars W W.heap.size An k ns := by
            refine ⟨?_, Reads.of_own hu3⟩
            have := congrArg List.length HN.out.1
            simp [namesP] at this
            rw [this]
            have := HL.out
            omega
          have r0 := hb4.cell 0
          have r1 := hb4.cell 1
          have r2 := hb4.cell 2
          simp only [List.getElem?_toArray, List.getElem?_cons_zero, List.getElem?_cons_succ] at r0 r1 r2
          have hname : namesP ns = N := by rw [HN.out.1]; exact List.take_of_length_le (by rw [HL.out]; omega)
          refine bodyPost_ret (v := .agg #[.slice Ap i cp, .slice An k cn, .bool false]) ?_ rfl ⟨⟨Ap, cp, An, cn, ns, by rw [HL.out], by rw [HL.out]; exact hpar, hname, HN.out.2⟩, hbw⟩
          simp [results, Try.results56, go_sem, r0, r1, r2]
end Go.Proofs.Ythinfliplpjdjaa
