/-
  objectFields: the names of an object's fields, in whatever order.
-/
import Derived.Test.YtkbjcpeogecbgaaDoorFvRestr
import Derived.Test.YtkbjcpeogecbgaaDoorFvLaw
import Derived.Sort.OwnSorted
namespace Go.Proofs.YtkbjcpeogecbgaaDoor
open Go.RowKit Go.Maps

/-- Which fields count. -/
def pF (hid : Bool) (c : Int) : Bool := hid || decide (c ≠ 0)
theorem row_ne_map {H : Type} {P : Program} {k : TypeId} {R : Value → Option (DataW H × List MemPlace)} {w : World} {b n : Nat} {D : DataW H} {base : Nat} {e : TypeId} {size : Nat} {v : Value} {m : Nat} {xs : List Value}
    (h : w.ownsRow base e size v m xs) (hr : w.ownsMap P k R b n D) : some b ≠ v.ownBlock := by
  obtain ⟨_, _, hb', _⟩ := hr
  rcases h.2 with ⟨rfl, _⟩ | ⟨g, cap, cur, rfl, _, hb, _⟩
  · simp [Value.ownBlock]
  · intro e1
    have : b = g := by simpa [Value.ownBlock] using e1
    subst this
    rw [hb'] at hb
    cases hb
theorem encStr_back (s : ByteArray) : encStr s.data.toList = .string s := by
  show Value.string ⟨s.data.toList.toArray⟩ = _
  rw [back_list]
/-- What stands at the head of a round: the names so far. -/
def OfI (V : ByteArray → Option Int) (p : Int → Bool) (bF it nF : Nat) (D : DataW Unit) (w wr : World) (u : Value) : Prop :=
  ∃ left cnt ss, wr.ranges Tryd.prog 9 rdI bF it nF D left cnt ∧ wr.ownsRow w.heap.size 9 1 u ss.length (ss.map encStr) ∧ Coll V p left ss ∧ ss.length + cnt ≤ nF ∧ (∀ x ∈ ss, x.length ≤ maxLen) ∧ Below w.heap.size w wr
/-- What is returned: the names that count, each once. -/
def OfPost (o : OT) (p : Int → Bool) (w : World) (e : Ending) (w' : World) : Prop :=
  (∃ v ss, e = .returned v ∧ w'.ownsRow w.heap.size 9 1 v ss.length (ss.map encStr) ∧ NamesOf (visO o) p ss ∧ ss.length ≤ 12 * sizeO o ∧ (∀ x ∈ ss, x.length ≤ maxLen)) ∧ Below w.heap.size w w'
theorem info_string : (Tryd.prog.info? 9).map (fun i => (i.zero, i.size, i.bytes)) = some (some (.string ByteArray.empty), 1, 16) := by kernel_rfl
theorem ofI_skip {V : ByteArray → Option Int} {p : Int → Bool} {bF it nF cnt cnt1 : Nat} {D : DataW Unit} {left : Lit → Bool} {ss : List (List UInt8)} {w w1 wr : World} {u : Value} {x : ByteArray} {c : Int}
    (hrg1 : w1.ranges Tryd.prog 9 rdI bF it nF D (fun z => left z && !z.sameKey (keyL x)) cnt1) (hg1 : wr.grownBy w1 (some it)) (hit : some it ≠ u.ownBlock) (hrow : wr.ownsRow w.heap.size 9 1 u ss.length (ss.map encStr)) (hcoll : Coll V p left ss) (hn : ss.length + cnt ≤ nF) (hlt : cnt1 < cnt) (hz : ∀ x ∈ ss, x.length ≤ maxLen) (hb : Below w.heap.size w wr)
    (hl : left (keyL x) = true) (hv : V x = some c) (hp : p c = false) (hitw : w.heap.size ≤ it) : OfI V p bF it nF D w w1 u :=
  ⟨_, cnt1, ss, hrg1, hrow.kept hg1 (by cases hu : u.ownBlock with | none => exact .inl rfl | some g => rw [hu] at hit; exact .inr (fun e => hit e.symm)), (hcoll.step hl hv).2 hp, by omega, hz, hb.grown hg1 hb.size (fun k hk => by cases hk; exact hitw)⟩
theorem ofI_step {V : ByteArray → Option Int} {p : Int → Bool} {bF it nF cnt1 g2 cap2 : Nat} {D : DataW Unit} {left : Lit → Bool} {ss : List (List UInt8)} {w w1 w2 : World} {u : Value} {x : ByteArray} {c : Int} {ob : Obj}
    (h1 : w1.ranges Tryd.prog 9 rdI bF it nF D (fun z => left z && !z.sameKey (keyL x)) cnt1) (hrow : w1.ownsRow w.heap.size 9 1 u ss.length (ss.map encStr)) (hb : Below w.heap.size w w1) (hcoll : Coll V p left ss) (hn : ss.length + cnt1 < nF) (hz : ∀ x ∈ ss, x.length ≤ maxLen)
    (hl : left (keyL x) = true) (hv : V x = some c) (hp : p c = true) (hx : x.size ≤ maxLen)
    (hown2 : w2.ownsRow w.heap.size 9 1 (.slice (some ⟨g2, 0, none⟩) (ss.length + 1) cap2) (ss.length + 1) (ss.map encStr ++ [.string x])) (hgrow2 : (w1.alloc ob).grownBy w2 u.ownBlock) :
    OfI V p bF it nF D w w2 (.slice (some ⟨g2, 0, none⟩) (ss.length + 1) cap2) := by
  have h1a := h1.alloc ob
  have hra := hrow.alloc ob
  have hlow : ∀ k, u.ownBlock = some k → w.heap.size ≤ k := fun k hk => (hrow.lt k hk).1
  have h7 : (w1.alloc ob).heap.size = w1.heap.size + 1 := by simp
  have h8 := hb.size
  refine ⟨_, cnt1, ss ++ [x.data.toList], h1a.kept hgrow2 (row_ne_map hra h1a.owns) (row_ne_iter hra h1a), ?_, (hcoll.step hl hv).1 hp, by simp; omega, ?_, (hb.alloc hb.size ob).grown hgrow2 (by omega) hlow⟩
  · rw [List.map_append, List.length_append, List.map_cons, List.map_nil, encStr_back]
    exact hown2
  · intro y hy
    rcases List.mem_append.1 hy with hy | hy
    · exact hz y hy
    · rw [List.mem_singleton] at hy
      subst hy
      have : x.data.toList.length = x.size := by rw [Array.length_toList]; rfl
      omega
set_option maxRecDepth 100000 in
set_option maxHeartbeats 3200000 in
theorem objFields_any (o : OT) (p : Value) (hid : Bool) (hI : Int) (q0 : (hI == 0) = hid) (w : World) (h : VO w w.heap.size o p) (hs : sizeO o ≤ 1000) :
    Calls Tryd.prog 27 #[p, .int .i64 hI] w (OfPost o (pF hid) w) := by
  have KV := Lib.hid (objVis_any o p w h hs)
  obtain ⟨i0, hi, hz, hsz, hbb⟩ := info_parts info_string
  clear h
  go_enter Tryd.func27, Tryd.ntmps27
  go_wp2_with fail
  refine KV.out.mono ?_
  rintro e1 w1 ⟨⟨bF, nF, rfl, hbF, ⟨D, hown, hD⟩, hnF⟩, hb1⟩
  have HB1 := Lib.hid hb1
  have HD := Lib.hid hD
  have HO := Lib.hid hown
  have HSL := Lib.hid hown.size_le
  have hb1s : w.heap.size ≤ w1.heap.size := hb1.size
  clear hb1 hown hD
  go_wp2_with (at_range; refine wpList_range_own _ rfl _ 85 rfl 9 53 lawK Tryd.underlying85 rdI bF nF D rfl HO.out ?_; intro w0 hrg0 hg0 hs0)
  go_frame
  have HV0 := Lib.hid (show OfI (visO o) (pF hid) bF w1.heap.size nF D w w0 (.slice none 0 0) from
    ⟨_, _, [], hrg0, World.ownsRow_nil _ _ _ _, Coll.start _ HD.out, by have := HSL.out; simpa using this, (fun x hx => by cases hx), HB1.out.grown hg0 hb1s (fun k hk => by cases hk)⟩)
  clear hrg0 hg0
  go_loopw [5] (fun u wr => Hid (OfI (visO o) (pF hid) bF w1.heap.size nF D w wr u)) (fun _ wr => wr.rangeLeft bF w1.heap.size)
  case atStart => exact HV0
  case round =>
    have HI : Hid (OfI (visO o) (pF hid) bF w1.heap.size nF D w wr u5) := hrel
    clear hrel HV0
    obtain ⟨left, cnt, ss, hrg, hrow, hcoll, hn, hzz, hbw⟩ := HI.out
    have HRG := Lib.hid hrg
    have HROW := Lib.hid hrow
    have HCO := Lib.hid hcoll
    have HZ := Lib.hid hzz
    have HBW := Lib.hid hbw
    clear hrg hrow hcoll hzz hbw HI
    go_wp2_with (at_next; refine wpList_next_ranges _ rfl _ rfl 9 lawK rdI Value.string (fun x : Int => .int .i64 x) (fun key kl hk => by obtain ⟨s, h1, -, -⟩ := keyS_inv hk; exact ⟨s, h1⟩) (fun v y hv => by obtain ⟨x, h1, -⟩ := rdI_cases hv; exact ⟨x, h1⟩) bF w1.heap.size nF D left cnt rfl HRG.out ?_ ?_)
    · intro hc0 hl0
      have HN := Lib.hid (HCO.out.done hl0)
      clear hl0
      go_wp2_with fail
      go_ret
      exact ⟨⟨_, ss, rfl, HROW.out, HN.out, by omega, HZ.out⟩, HBW.out⟩
    · intro x c kl y1 y2 w3 cnt1 hkey hlk hv hat hrg1 hlt hg1 hs1 hen
      obtain ⟨x', hx', rfl, hxs⟩ := keyS_inv hkey
      obtain rfl : x = x' := by injection hx'
      have hy : y1 = .lit (.int .i64 c) := by
        have h5 : rdI (Value.int .i64 c) = some (.lit (.int .i64 c), []) := rfl
        rw [h5] at hv
        injection hv with hv
        injection hv with hv _
        exact hv.symm
      subst hy
      have HU := Lib.hid (HD.out.of_at hat)
      have HIT := Lib.hid (row_ne_iter HROW.out HRG.out)
      have HRG1 := Lib.hid hrg1
      have HLK := Lib.hid hlk
      have HME := Lib.hid (show w3.rangeLeft bF w1.heap.size < wr.rangeLeft bF w1.heap.size by rw [hrg1.left_eq, HRG.out.left_eq]; exact hlt)
      have HG1 := Lib.hid hg1
      clear hkey hlk hv hat hrg1 hg1 hs1 hx'
      cases hp : pF hid c
      · have HN := Lib.hid (ofI_skip HRG1.out HG1.out HIT.out HROW.out HCO.out hn hlt HZ.out HBW.out HLK.out HU.out hp hb1s)
        have hh : hid = false := by cases hid; rfl; exact absurd hp (by simp [pF])
        subst hh
        obtain rfl : c = 0 := by
          have : decide (c ≠ 0) = false := by simpa [pF] using hp
          simpa using this
        clear hp
        go_wp2_with fail
        go_roundw
        case rel => exact HN
        case measure => exact HME.out
      · have HP := Lib.hid hp
        have hrow3 := HROW.out.kept HG1.out (by cases hu : u5.ownBlock with | none => exact .inl rfl | some g => have h9 := HIT.out; rw [hu] at h9; exact .inr (fun e => h9 e.symm))
        have HR3 := Lib.hid hrow3
        have hbw3 := HBW.out.grown HG1.out HBW.out.size (fun k hk => by cases hk; exact hb1s)
        have HB3 := Lib.hid hbw3
        have hz3 : w.heap.size ≤ w3.heap.size := hbw3.size
        have hq : hid = true ∨ (hid = false ∧ (c == 0) = false) := by
          cases hid
          · have : decide (c ≠ 0) = true := by simpa [pF] using hp
            exact .inr ⟨rfl, by simpa using this⟩
          · exact .inl rfl
        clear hp hrow3 hbw3
        rcases hq with rfl | ⟨rfl, hq⟩
        all_goals
          go_wp2_with (at_builtin; refine wpList_append_x _ rfl (.tmp 22) (.tmp 24) 24 rfl w.heap.size 9 i0 _ 1 16 Tryd.underlying24 hi hz hsz hbb rfl (by omega) u5 ss.length _ rfl (HR3.out.alloc _) (w3.heap.size + 1) (some ⟨w3.heap.size, 0, none⟩) 1 1 [.string x] rfl (Reads.ofBlock (cs := #[.string x]) (heap_alloc_new _ _) rfl (by omega)) (by simp [Value.oneCell']) (.inr (by omega)) (by unfold maxLen; omega) (by omega) (by simp; omega) (w3.heap.size + 1) (by simp) ?_; intro g2 cap2 w2 hown2 hgrow2 hat2 hlt2)
          have HN := Lib.hid (ofI_step HRG1.out HR3.out HB3.out HCO.out (by omega) HZ.out HLK.out HU.out HP.out hxs hown2 hgrow2)
          have HM2 := Lib.hid (show w2.rangeLeft bF w1.heap.size < wr.rangeLeft bF w1.heap.size by
            have h1a := HRG1.out.alloc (.cells #[.string x] 9)
            rw [(h1a.kept hgrow2 (row_ne_map (HR3.out.alloc _) h1a.owns) (row_ne_iter (HR3.out.alloc _) h1a)).left_eq, HRG.out.left_eq]
            exact hlt)
          clear hown2 hgrow2 hat2
          go_roundw
          case rel => exact HN
          case measure => exact HM2.out
end Go.Proofs.YtkbjcpeogecbgaaDoor
