/-
  bound: a map of names to thunks of a number; lookUpVar; makeEnvironment, makeUnboundSelfBinding.
-/
import Derived.Test.YtkbjcpeogecbgaaStkOps
namespace Go.Proofs.Ytkbjcpeogecbgaa
open Go.RowKit Go.Maps

theorem intTo_any (i : Int) (w : World) : Calls Try.prog 24 #[.int .i64 i] w fun e w' => e = .returned (.pointer (some ⟨w.heap.size, 0, none⟩)) ∧ w.alloc (.cells #[.float .f64 (floatOfInt .f64 i)] 76) = w' := by
  have k1 : ∀ w, (convert 3 74 (.int .i64 i)).run Try.prog w = .ok (.float .f64 (floatOfInt .f64 i)) w := fun w => run_convert_int_float w _ _ _ _ _ (by kernel_rfl) Try.underlying74
  generalize floatOfInt .f64 i = x at *
  go_enter Try.func24, Try.ntmps24
  go_wp2
  go_ret
  exact ⟨rfl, rfl⟩
theorem thunk_any (t : TypeId) (v : Value) (w : World) :
    Calls Try.prog 23 #[.iface t v] w fun e w' => e = .returned (.pointer (some ⟨w.heap.size, 0, none⟩)) ∧ w.alloc (.cells #[.pointer none, .nilIface, .iface t v, .nilIface] 86) = w' := by
  go_enter Try.func23, Try.ntmps23
  go_wp2
  go_ret
  exact ⟨rfl, rfl⟩

def zD : DataW Unit := .lit (.int .i64 (-1))
theorem zD_rd : rdP (.pointer none) = some (zD, []) := rfl
/-- A map whose elements are thunks of numbers, or nil. -/
def MapA (w : World) (B b n : Nat) : Prop := ∃ D, w.ownsMap Try.prog 71 rdP b n D ∧ ∀ kl, ∃ v ps, rdP v = some (D.atKey kl zD, ps) ∧ ThN w B v
theorem MapA.made (w : World) (B : Nat) : MapA (w.alloc (.map #[] 0)) B w.heap.size 0 :=
  ⟨_, World.ownsMap_made w _ _ _, fun _ => ⟨.pointer none, [], rfl, .inl rfl⟩⟩
theorem MapA.put {w w' : World} {B b n : Nat} {D : DataW Unit} (s : ByteArray) (d : DataW Unit) (hD : w.ownsMap Try.prog 71 rdP b n D) (ha : ∀ kl, ∃ v ps, rdP v = some (D.atKey kl zD, ps) ∧ ThN w' B v) (hn : w'.ownsMap Try.prog 71 rdP b (n + 1) (D.put (keyL s) d)) (v : Value) (ps : List MemPlace) (hv : rdP v = some (d, ps)) (ht : ThN w' B v) : MapA w' B b (n + 1) := by
  refine ⟨_, hn, fun kl => ?_⟩
  by_cases hk : kl = keyL s
  · subst hk
    rw [atKey_put_same hD.isMap (show WideAt.IsKeyLit (keyL s) from trivial)]
    exact ⟨v, ps, hv, ht⟩
  · rw [atKey_put_other hk]
    exact ha kl

theorem Blk.map_grown {w w' : World} {g b : Nat} {t : TypeId} {cs : Array Value} (h : Blk w g t cs) (hg : w.grownBy w' (some b)) (hm : ∃ es c, w.heap[b]? = some (.map es c)) : Blk w' g t cs := by
  refine h.grown hg fun e => ?_
  injection e with e
  subst e
  obtain ⟨es, c, hm⟩ := hm
  unfold Blk at h
  rw [h] at hm
  cases hm
theorem ThN.map_grown {w w' : World} {B b : Nat} {v : Value} (h : ThN w B v) (hg : w.grownBy w' (some b)) (hm : ∃ es c, w.heap[b]? = some (.map es c)) : ThN w' B v := by
  rcases h with h | ⟨t, g, i, h1, h2, h3, h4, h5, h6⟩
  · exact .inl h
  · exact .inr ⟨t, g, i, h1, h2, h3, h4, h5.map_grown hg hm, h6.map_grown hg hm⟩
theorem bound_step {wr w2 : World} {b j i x : Nat} {D : DataW Unit} {s : ByteArray} (hx : floatOfInt .f64 (i : Int) = x) (hi : i ≤ 65535)
    (hT : ((wr.alloc (.cells #[.float .f64 x] 76)).alloc (.cells #[.pointer none, .nilIface, .iface 77 (.pointer (some ⟨wr.heap.size, 0, none⟩)), .nilIface] 86)).ownsMap Try.prog 71 rdP b j D)
    (ha : ∀ kl, ∃ v ps, rdP v = some (D.atKey kl zD, ps) ∧ ThN wr wr.heap.size v)
    (hg : ((wr.alloc (.cells #[.float .f64 x] 76)).alloc (.cells #[.pointer none, .nilIface, .iface 77 (.pointer (some ⟨wr.heap.size, 0, none⟩)), .nilIface] 86)).grownBy w2 (some b))
    (hn : w2.ownsMap Try.prog 71 rdP b (j + 1) (D.put (keyL s) (.lit (.int .i64 ((wr.heap.size + 1 : Nat) : Int))))) : MapA w2 w2.heap.size b (j + 1) := by
  have hm : ∃ es c, ((wr.alloc (.cells #[.float .f64 x] 76)).alloc (.cells #[.pointer none, .nilIface, .iface 77 (.pointer (some ⟨wr.heap.size, 0, none⟩)), .nilIface] 86)).heap[b]? = some (.map es c) := by
    obtain ⟨es, c, q, -⟩ := hT
    exact ⟨es, c, q⟩
  have hz := hg.size
  simp at hz
  have hb0 : Below wr.heap.size wr ((wr.alloc (.cells #[.float .f64 x] 76)).alloc (.cells #[.pointer none, .nilIface, .iface 77 (.pointer (some ⟨wr.heap.size, 0, none⟩)), .nilIface] 86)) := ((Below.refl _ _).alloc (Nat.le_refl _) _).alloc (by simp) _
  refine MapA.put s _ hT (fun kl => ?_) hn (.pointer (some ⟨wr.heap.size + 1, 0, none⟩)) [] rfl (.inr ⟨wr.heap.size + 1, wr.heap.size, i, rfl, by omega, by omega, hi, ?_, ?_⟩)
  · obtain ⟨v, ps, h1, h2⟩ := ha kl
    exact ⟨v, ps, h1, ((h2.below hb0 (Nat.le_refl _)).map_grown hg hm).more (by omega)⟩
  · refine Blk.map_grown ?_ hg hm
    have := Blk.new (wr.alloc (.cells #[.float .f64 x] 76)) 86 #[.pointer none, .nilIface, .iface 77 (.pointer (some ⟨wr.heap.size, 0, none⟩)), .nilIface]
    simpa using this
  · refine Blk.map_grown ?_ hg hm
    rw [hx]
    exact (Blk.new wr _ _).alloc _
def BoPost (w : World) (e : Ending) (w' : World) : Prop := (∃ b, e = .returned (.map (some b)) ∧ MapN w' w'.heap.size b) ∧ Below w.heap.size w w'
set_option maxRecDepth 100000 in
set_option maxHeartbeats 1600000 in
theorem bound_any (k : Int) (A : Option Addr) (n c : Nat) (ns : List ByteArray) (nm : ByteArray) (i : Nat) (tr : Bool) (B : Nat) (w : World) (h : Strs w B A n ns) (hB : B ≤ w.heap.size) (hn : n ≤ 2147483647) (hs : ∀ s ∈ ns, s.size ≤ maxLen) (hi : i ≤ 65535) :
    Calls Try.prog 17 #[.agg #[.int .i64 k, .slice A n c, .string nm, .int .i64 (i : Int), .bool tr]] w (BoPost w) := by
  have HH := Lib.hid h
  have HL := Lib.hid (Strs.len h)
  have HS := Lib.hid hs
  clear h hs
  have hmm := @run_makeMap Try.prog
  have hbx : Blk (w.alloc (.cells #[.int .i64 k, .slice A n c, .string nm, .int .i64 (i : Int), .bool tr] 36)) w.heap.size 36 #[.int .i64 k, .slice A n c, .string nm, .int .i64 (i : Int), .bool tr] := Blk.new w _ _
  have hb0 : Below w.heap.size w (w.alloc (.cells #[.int .i64 k, .slice A n c, .string nm, .int .i64 (i : Int), .bool tr] 36)) := (Below.refl _ _).alloc (Nat.le_refl _) _
  have HBX := Lib.hid hbx
  have HB0 := Lib.hid hb0
  have hsz : (w.alloc (.cells #[.int .i64 k, .slice A n c, .string nm, .int .i64 (i : Int), .bool tr] 36)).heap.size = w.heap.size + 1 := by simp
  clear hbx hb0
  obtain ⟨x, hx⟩ : ∃ x, floatOfInt .f64 (i : Int) = x := ⟨_, rfl⟩
  have KI := Lib.hid (fun w => intTo_any (i : Int) w)
  rw [hx] at KI
  have HX := Lib.hid hx
  clear hx
  go_enter Try.func17, Try.ntmps17
  go_wp2
  generalize w.alloc (.cells #[.int .i64 k, .slice A n c, .string nm, .int .i64 (i : Int), .bool tr] 36) = W1 at *
  have HS1 := Lib.hid hsz
  go_loopw [10] (fun t wr => ∃ j : Nat, j ≤ n ∧ t = .int .i64 j ∧ Hid (Below (w.heap.size + 1) W1 wr) ∧ Hid (MapA wr wr.heap.size (w.heap.size + 1) j)) (fun t _ => n - (intOf t).toNat)
  case atStart =>
    refine ⟨0, Nat.zero_le _, rfl, Lib.hid ((Below.refl _ _).alloc (by omega) _), Lib.hid ?_⟩
    rw [← HS1.out]
    exact MapA.made W1 _
  case round =>
    obtain ⟨j, hj, rfl, HB, HM⟩ := hrel
    have hbs := HB.out.size
    have hws : w.heap.size + 1 ≤ wr.heap.size := by omega
    by_cases hlt : j < n
    · obtain ⟨ad, rfl, hbk, hc0⟩ := HH.out.at_ hlt
      have hc := (HB.out.cell (p := ad.add j) (by rw [block_of_add]; omega)).trans ((HB0.out.cell (p := ad.add j) (by rw [block_of_add]; omega)).trans hc0)
      have hjl : j < ns.length := by rw [HL.out]; exact hlt
      have e0 : ns.getD j ByteArray.empty = ns[j] := by simp [hjl]
      rw [e0] at hc
      have hsz2 := HS.out _ (List.getElem_mem hjl)
      generalize ns[j] = s at hc hsz2
      have q3 : wr.cell? ⟨w.heap.size, 3, none⟩ = some (.int .i64 (i : Int)) := (HB.out.cell (p := ⟨w.heap.size, 3, none⟩) (by show w.heap.size < _; omega)).trans (HBX.out.cell 3)
      obtain ⟨D, hD, hDa⟩ := HM.out
      have HD := Lib.hid hD
      have HDA := Lib.hid hDa
      clear hc0 e0 hD hDa
      go_wp2_with (first
        | (go_at_call 24; refine (KI.out _).mono ?_; rintro e w' ⟨rfl, rfl⟩)
        | (go_at_call 23; refine (thunk_any _ _ _).mono ?_; rintro e w' ⟨rfl, rfl⟩)
        | (at_mapUpdate; refine wpList_mapUpdate_own _ rfl _ _ _ 58 rfl _ _ lawK Try.underlying58 rdP (w.heap.size + 1) j D rfl ((HD.out.alloc _).alloc _) (by unfold maxLen; omega) _ _ (keyL s) rfl rfl (key_of hsz2) (.lit (.int .i64 ((wr.heap.size + 1 : Nat) : Int))) [] rfl ?_; intro w2 hown2 hgrow2))
      have hb2 : Below (w.heap.size + 1) W1 w2 := ((HB.out.alloc hws _).alloc (by simp; omega) _).grown hgrow2 (by simp; omega) (fun q hq => by cases hq; exact Nat.le_refl _)
      have hT := (HD.out.alloc (.cells #[.float .f64 x] 76)).alloc (.cells #[.pointer none, .nilIface, .iface 77 (.pointer (some ⟨wr.heap.size, 0, none⟩)), .nilIface] 86)
      have hmap : MapA w2 w2.heap.size (w.heap.size + 1) (j + 1) := bound_step HX.out hi hT HDA.out hgrow2 hown2
      clear hgrow2 hown2 hT
      go_roundw
      case rel => exact ⟨j + 1, by omega, by go_num, Lib.hid hb2, Lib.hid hmap⟩
      case measure => simp [intOf]; omega
    · obtain rfl : j = n := by omega
      go_wp2
      go_ret
      obtain ⟨D, hD, hDa⟩ := HM.out
      exact ⟨⟨_, rfl, hD.lt, j, D, hD, hDa⟩, HB0.out.trans (HB.out.mono (Nat.le_succ _))⟩

theorem MapN.a {w : World} {B b : Nat} (h : MapN w B b) : ∃ n, MapA w B b n := by
  obtain ⟨h0, n, D, h1, h2⟩ := h
  exact ⟨n, D, h1, h2⟩
def LkPost (w : World) (e : Ending) (w' : World) : Prop := (∃ v, e = .returned v ∧ ThN w w.heap.size v) ∧ w = w'
set_option maxRecDepth 100000 in
set_option maxHeartbeats 1600000 in
theorem lookUp_any (base bS : Nat) (F : List (Bool × Bool)) (c : Int) (t1 t2 : Option Addr) (s : ByteArray) (w : World) (h : SI w base bS F c t1 t2) (hl : F.length ≤ 1000) (hs : s.size ≤ maxLen) :
    Calls Try.prog 22 #[.pointer (some ⟨bS, 0, none⟩), .string s] w (LkPost w) := by
  obtain ⟨v, ps, lim, hB, hO, hF⟩ := h
  obtain ⟨A, cap, rfl⟩ : ∃ A cap, v = .slice A F.length cap := by
    rcases hO.2 with ⟨rfl, h0⟩ | ⟨g, cap, cur, rfl, _⟩
    · exact ⟨none, 0, by rw [h0]⟩
    · exact ⟨_, cap, rfl⟩
  have c2 := hB.cell 2
  simp only [List.getElem?_toArray, List.getElem?_cons_zero, List.getElem?_cons_succ] at c2
  have HO := Lib.hid hO
  have HF := Lib.hid hF
  clear hB hO hF
  go_enter Try.func22, Try.ntmps22
  go_wp2
  go_loop [5] (fun t => ∃ q : Nat, q ≤ F.length ∧ t = .int .i64 ((q : Int) - 1)) (fun t => (intOf t + 1).toNat)
  case atStart => exact ⟨F.length, Nat.le_refl _, rfl⟩
  case round =>
    obtain ⟨q, hq, rfl⟩ := hrel
    rcases q with _ | q
    · go_wp2
      go_ret
      exact ⟨⟨_, rfl, .inl rfl⟩, rfl⟩
    · have e1 : ((q + 1 : Nat) : Int) - 1 = (q : Int) := by omega
      rw [e1]
      obtain ⟨g, cap', hv⟩ := own_sl HO.out (by omega)
      injection hv with hA _ hcap
      subst hA hcap
      obtain ⟨p, hp, hfr⟩ := HF.out.at_ (show q < F.length by omega)
      obtain ⟨gf, bm, l1, l2, l3, d, rfl, hgf, hmp, hBf⟩ := hfr
      have r0 : w.cell? ⟨g, q, none⟩ = some (.pointer (some ⟨gf, 0, none⟩)) := by rw [HO.out.cellAt q (by omega), hp]
      have r2 := hBf.cell 2
      have r5 := hBf.cell 5
      simp only [List.getElem?_toArray, List.getElem?_cons_zero, List.getElem?_cons_succ] at r2 r5
      obtain ⟨nm, D, hD, hDa⟩ := hmp.a
      have HD := Lib.hid hD
      have HDA := Lib.hid hDa
      clear hp hBf e1 hmp hD hDa
      generalize F.getD q (false, false) = kk at r5
      obtain ⟨k1, k2⟩ := kk
      cases hh : has D (keyL s) with
      | true =>
        have HH := Lib.hid hh
        clear hh
        go_wp2_with (at_lookup; refine wpList_lookup_own_ok _ rfl _ _ 58 rfl _ _ lawK Try.underlying58 rdP (zeroP _) zD [] zD_rd bm nm D rfl HD.out _ (keyL s) rfl (key_of hs) ?_; rw [HH.out]; intro v ps hv)
        have hth : ThN w w.heap.size v := by
          obtain ⟨v', ps', h1, h2⟩ := HDA.out (keyL s)
          rw [rdP_inj hv h1]
          exact h2
        have HT := Lib.hid hth
        clear hth hv
        go_ret
        exact ⟨⟨_, rfl, HT.out⟩, rfl⟩
      | false =>
        have HH := Lib.hid hh
        clear hh
        cases k1
        · go_wp2_with (at_lookup; refine wpList_lookup_own_ok _ rfl _ _ 58 rfl _ _ lawK Try.underlying58 rdP (zeroP _) zD [] zD_rd bm nm D rfl HD.out _ (keyL s) rfl (key_of hs) ?_; rw [HH.out]; intro v ps hv)
          go_round
          case rel => exact ⟨q, by omega, by go_num⟩
          case measure => simp [intOf]
        · go_wp2_with (at_lookup; refine wpList_lookup_own_ok _ rfl _ _ 58 rfl _ _ lawK Try.underlying58 rdP (zeroP _) zD [] zD_rd bm nm D rfl HD.out _ (keyL s) rfl (key_of hs) ?_; rw [HH.out]; intro v ps hv)
          go_ret
          exact ⟨⟨_, rfl, .inl rfl⟩, rfl⟩
end Go.Proofs.Ytkbjcpeogecbgaa
