/-
  uncachedObjectFieldsVisibility: how the fields of an object are seen.
-/
import Derived.Test.YtkbjcpeogecbgaaDoorFvObj
import Derived.Maps.OwnSet
namespace Go.Proofs.YtkbjcpeogecbgaaDoor
open Go.RowKit Go.Maps

def extF (E V : ByteArray → Option Int) : ByteArray → Option Int := fun s =>
  match V s with
  | none => E s
  | some c => if c = 1 then (match E s with | some e => some e | none => some c) else some c
/-- How the fields of an object are seen. -/
def visO : OT → ByteArray → Option Int
  | .simple L => lookL L
  | .ext l L => extF (visO l) (lookL L)
  | .restr _ V => V
/-- What a map reads while another one is gone through: what it read, where an entry is still to come. -/
def tF (left : Lit → Bool) (E U : ByteArray → Option Int) : ByteArray → Option Int := fun s => if left (keyL s) = true then E s else U s
theorem key_same {x s : ByteArray} : (keyL s).sameKey (keyL x) = decide (s = x) := by
  unfold keyL
  simp only [Lit.sameKey]
  by_cases h : s = x
  · subst h; simp
  · rw [decide_eq_false h]
    simp
    exact fun e => h (ByteArray.ext e)
theorem tF_put {left : Lit → Bool} {E U : ByteArray → Option Int} {x : ByteArray} {v : Int} (hu : U x = some v) (s : ByteArray) : putF (tF left E U) x v s = tF (fun z => left z && !z.sameKey (keyL x)) E U s := by
  unfold putF tF
  by_cases h : s = x
  · subst h
    rw [if_pos rfl]
    have : (left (keyL s) && !(keyL s).sameKey (keyL s)) = false := by rw [key_same]; simp
    simp only [this]
    rw [if_neg (by decide), hu]
  · rw [if_neg h]
    have : (left (keyL s) && !(keyL s).sameKey (keyL x)) = left (keyL s) := by rw [key_same, decide_eq_false h]; simp
    simp only [this]
theorem tF_stay {left : Lit → Bool} {E U : ByteArray → Option Int} {x : ByteArray} (hu : U x = E x) (s : ByteArray) : tF left E U s = tF (fun z => left z && !z.sameKey (keyL x)) E U s := by
  unfold tF
  by_cases h : s = x
  · subst h
    have : (left (keyL s) && !(keyL s).sameKey (keyL s)) = false := by rw [key_same]; simp
    simp only [this]
    by_cases hl : left (keyL s) = true
    · rw [if_pos hl, if_neg (by decide)]
      exact hu.symm
    · rw [if_neg hl, if_neg (by decide)]
  · have : (left (keyL s) && !(keyL s).sameKey (keyL x)) = left (keyL s) := by rw [key_same, decide_eq_false h]; simp
    simp only [this]
theorem tF_start {D : DataW Unit} {V E U : ByteArray → Option Int} (h : HoldsF D V) (hn : ∀ s, V s = none → U s = E s) (s : ByteArray) : E s = tF (has D) E U s := by
  unfold tF
  split
  · rfl
  · rename_i h1
    have h2 := (h s).1
    cases hv : V s with
    | none => exact (hn s hv).symm
    | some c => rw [hv] at h2; exact absurd h2 h1
theorem tF_end {left : Lit → Bool} {E U : ByteArray → Option Int} (h : ∀ kl, left kl = false) (s : ByteArray) : tF left E U s = U s := by
  unfold tF
  rw [h, if_neg (by decide)]
theorem HMap.same {w : World} {b n : Nat} {V V' : ByteArray → Option Int} (h : HMap w b n V) (e : ∀ s, V s = V' s) : HMap w b n V' := by
  obtain ⟨D, h1, h2⟩ := h
  exact ⟨D, h1, h2.same e⟩
theorem rdI_cases {v : Value} {y : DataW Unit × List MemPlace} (h : rdI v = some y) : ∃ c : Int, v = .int .i64 c ∧ y = (.lit (.int .i64 c), []) := by
  unfold rdI at h
  split at h
  · rename_i c
    injection h with h
    exact ⟨c, rfl, h.symm⟩
  · cases h
theorem keyS_inv {key : Value} {kl : Lit} (h : keyOf Tryd.prog 9 key = some kl) : ∃ s : ByteArray, key = .string s ∧ kl = keyL s ∧ s.size ≤ maxLen := by
  obtain ⟨s, h1, h2, h3⟩ := WideMaps.string_of_keyOf Tryd.underlying9 h
  exact ⟨s, h1, h2, h3⟩
theorem assert_ext_s (a : Addr) (w : World) : (Instr.typeAssert (.iface 102 (.pointer (some a))) 66 99 true).run Tryd.prog w = .ok (.tuple #[.pointer none, .bool false]) w := by kernel_rfl
theorem assert_restr_s (a : Addr) (w : World) : (Instr.typeAssert (.iface 102 (.pointer (some a))) 66 97 true).run Tryd.prog w = .ok (.tuple #[.pointer none, .bool false]) w := by kernel_rfl
theorem assert_simple_s (a : Addr) (w : World) : (Instr.typeAssert (.iface 102 (.pointer (some a))) 66 102 true).run Tryd.prog w = .ok (.tuple #[.pointer (some a), .bool true]) w := by kernel_rfl
theorem assert_ext_r (a : Addr) (w : World) : (Instr.typeAssert (.iface 97 (.pointer (some a))) 66 99 true).run Tryd.prog w = .ok (.tuple #[.pointer none, .bool false]) w := by kernel_rfl
theorem assert_restr_r (a : Addr) (w : World) : (Instr.typeAssert (.iface 97 (.pointer (some a))) 66 97 true).run Tryd.prog w = .ok (.tuple #[.pointer (some a), .bool true]) w := by kernel_rfl
theorem assert_ext_e (a : Addr) (w : World) : (Instr.typeAssert (.iface 99 (.pointer (some a))) 66 99 true).run Tryd.prog w = .ok (.tuple #[.pointer (some a), .bool true]) w := by kernel_rfl
def ViPost (o : OT) (w : World) (e : Ending) (w' : World) : Prop := (∃ b n, e = .returned (.map (some b)) ∧ w.heap.size ≤ b ∧ HMap w' b n (visO o) ∧ n ≤ 12 * sizeO o) ∧ Below w.heap.size w w'
/-- What stands at the head of a round: a map is gone through, another one written. -/
def ViI (R : Value → Option (DataW Unit × List MemPlace)) (E U : ByteArray → Option Int) (bF it nF : Nat) (D : DataW Unit) (b m : Nat) (w wr : World) : Prop :=
  ∃ left cnt n, wr.ranges Tryd.prog 9 R bF it nF D left cnt ∧ HMap wr b n (tF left E U) ∧ n + cnt ≤ m ∧ Below w.heap.size w wr

theorem HMap.kept {w w' : World} {b n : Nat} {V : ByteArray → Option Int} {row : Option Nat} (h : HMap w b n V) (hg : w.grownBy w' row) (hne : some b ≠ row) : HMap w' b n V := by
  obtain ⟨D, h1, h2⟩ := h
  exact ⟨D, h1.kept hg hne, h2⟩
set_option maxRecDepth 100000 in
set_option maxHeartbeats 3200000 in
theorem vis_simple (L : AL) (v : Value) (w : World) (h : OB w w.heap.size (.simple L) v) : Calls Tryd.prog 37 #[v] w (ViPost (.simple L) w) := by
  have hmm := @run_makeMap Tryd.prog
  obtain ⟨g, bF, nF, rfl, hg, hbF, hB, ⟨D, hown, hD⟩, hn12⟩ := h
  have t1 := assert_ext_s ⟨g, 0, none⟩
  have t2 := assert_restr_s ⟨g, 0, none⟩
  have t3 := assert_simple_s ⟨g, 0, none⟩
  have hB1 := hB.alloc (.map #[] 0)
  have c1 := hB1.cell 1
  simp only [List.getElem?_toArray, List.getElem?_cons_zero, List.getElem?_cons_succ] at c1
  have HD := Lib.hid hD
  have HO := Lib.hid (hown.alloc (.map #[] 0))
  have HM := Lib.hid (HMap.made w)
  have HB0 := Lib.hid (show Below w.heap.size w (w.alloc (.map #[] 0)) from (Below.refl _ _).alloc (Nat.le_refl _) _)
  have hsz : (w.alloc (.map #[] 0)).heap.size = w.heap.size + 1 := by simp
  have hsl := Lib.hid hown.size_le
  clear hD hown hB hB1
  go_enter Tryd.func37, Tryd.ntmps37
  go_wp2_with (at_range; refine wpList_range_own _ rfl _ 105 rfl 9 74 lawK Tryd.underlying105 rdS bF nF D rfl HO.out ?_; intro w0 hrg0 hg0 hs0)
  go_frame
  generalize w.alloc (.map #[] 0) = W1 at *
  have HB1 := Lib.hid (HB0.out.grown hg0 (by omega) (fun k hk => by cases hk))
  have HV0 := Lib.hid (show ViI rdS (fun _ => none) (lookL L) bF W1.heap.size nF D w.heap.size 12 w w0 from
    ⟨_, _, 0, hrg0, (HM.out.kept hg0 (by simp)).same (tF_start HD.out (fun s hs => hs)), by have := hsl.out; omega, HB1.out⟩)
  have HS := Lib.hid hsz
  clear hrg0 hg0 HM HO hsz
  go_loopw [14] (fun _ wr => Hid (ViI rdS (fun _ => none) (lookL L) bF W1.heap.size nF D w.heap.size 12 w wr)) (fun _ wr => wr.rangeLeft bF W1.heap.size)
  case atStart => exact HV0
  case round =>
    have HI : Hid (ViI rdS (fun _ => none) (lookL L) bF W1.heap.size nF D w.heap.size 12 w wr) := hrel
    clear hrel HV0
    obtain ⟨left, cnt, n, hrg, hmap, hnm, hbw⟩ := HI.out
    have HRG := Lib.hid hrg
    have HMP := Lib.hid hmap
    have HBW := Lib.hid hbw
    clear hrg hmap hbw HI
    go_wp2_with (at_next; refine wpList_next_ranges _ rfl _ rfl 9 lawK rdS Value.string (fun x : Int => .agg #[.nilIface, .int .i64 x]) (fun key kl hk => by obtain ⟨s, h1, -, -⟩ := keyS_inv hk; exact ⟨s, h1⟩) (fun v y hv => by obtain ⟨d, p⟩ := y; obtain ⟨x, h1, -⟩ := rdS_cases hv; exact ⟨x, h1⟩) bF W1.heap.size nF D left cnt rfl HRG.out ?_ ?_)
    · intro _ hl0
      have HM2 := Lib.hid (HMP.out.same (tF_end hl0))
      clear hl0
      go_wp2_with fail
      go_ret
      exact ⟨⟨_, n, rfl, Nat.le_refl _, HM2.out, by show n ≤ 12 * 1; omega⟩, HBW.out⟩
    · intro x c kl y1 y2 w1 cnt1 hkey hlk hv hat hrg1 hlt hg1 hs1 hen
      obtain ⟨x', hx', rfl, hxs⟩ := keyS_inv hkey
      obtain rfl : x = x' := by injection hx'
      have hy : y1 = .lit (.int .i64 c) := by
        have h5 : rdS (Value.agg #[.nilIface, .int .i64 c]) = some (.lit (.int .i64 c), []) := rfl
        rw [h5] at hv
        injection hv with hv
        injection hv with hv _
        exact hv.symm
      subst hy
      have hu := HD.out.of_at hat
      have hWs := HS.out
      have hws : w.heap.size ≤ wr.heap.size := HBW.out.size
      obtain ⟨D2, hown1, hh2⟩ := HMP.out.kept hg1 (by simp; omega)
      have HH2 := Lib.hid hh2
      have HO1 := Lib.hid (hown1.alloc (.cells #[.nilIface, .int .i64 c] 74))
      have hbw1 := HBW.out.grown hg1 hws (fun k hk => by cases hk; omega)
      have HBW1 := Lib.hid (hbw1.alloc hbw1.size (.cells #[.nilIface, .int .i64 c] 74))
      have HRG1 := Lib.hid (hrg1.alloc (.cells #[.nilIface, .int .i64 c] 74))
      have HU := Lib.hid hu
      have hz : w.heap.size ≤ w1.heap.size := hbw1.size
      clear hkey hlk hv hat hrg1 hg1 hs1 hh2 hown1 hbw1 hx' hu hWs
      go_wp2_with (at_mapUpdate; refine wpList_mapUpdate_own _ rfl _ _ _ 85 rfl _ _ lawK Tryd.underlying85 rdI w.heap.size n D2 rfl HO1.out (by unfold maxLen; omega) _ _ (keyL x) rfl rfl (key_of hxs) (.lit (.int .i64 c)) [] rfl ?_; intro w2 hown2 hgrow2)
      have hrg2 := HRG1.out.kept hgrow2 (by simp; omega) (by have := HS.out; simp; omega)
      have HN := Lib.hid (show ViI rdS (fun _ => none) (lookL L) bF W1.heap.size nF D w.heap.size 12 w w2 from
        ⟨_, _, n + 1, hrg2, HMap.same ⟨_, hown2, HH2.out.put HO1.out.isMap x c⟩ (tF_put HU.out), by omega, HBW1.out.grown hgrow2 (by simp; omega) (fun k hk => by cases hk; exact Nat.le_refl _)⟩)
      have HME := Lib.hid (show w2.rangeLeft bF W1.heap.size < wr.rangeLeft bF W1.heap.size by rw [hrg2.left_eq, HRG.out.left_eq]; exact hlt)
      clear hown2 hgrow2 hrg2
      go_frame
      go_roundw
      case rel => exact HN
      case measure => exact HME.out
set_option maxRecDepth 100000 in
set_option maxHeartbeats 3200000 in
theorem vis_restr (o : OT) (V : ByteArray → Option Int) (v : Value) (w : World) (h : OB w w.heap.size (.restr o V) v) (hso : sizeO o ≤ 1000) : Calls Tryd.prog 37 #[v] w (ViPost (.restr o V) w) := by
  have hmm := @run_makeMap Tryd.prog
  obtain ⟨g, bF, nF, vo, rfl, hg, hbF, hB, -, ⟨D, hown, hD⟩, hn12⟩ := h
  have t1 := assert_ext_r ⟨g, 0, none⟩
  have t2 := assert_restr_r ⟨g, 0, none⟩
  have hB1 := hB.alloc (.map #[] 0)
  have c1 := hB1.cell 1
  simp only [List.getElem?_toArray, List.getElem?_cons_zero, List.getElem?_cons_succ] at c1
  have HD := Lib.hid hD
  have HO := Lib.hid (hown.alloc (.map #[] 0))
  have HM := Lib.hid (HMap.made w)
  have HB0 := Lib.hid (show Below w.heap.size w (w.alloc (.map #[] 0)) from (Below.refl _ _).alloc (Nat.le_refl _) _)
  have hsz : (w.alloc (.map #[] 0)).heap.size = w.heap.size + 1 := by simp
  have hsl := Lib.hid hown.size_le
  clear hD hown hB hB1
  go_enter Tryd.func37, Tryd.ntmps37
  go_wp2_with (at_range; refine wpList_range_own _ rfl _ 85 rfl 9 53 lawK Tryd.underlying85 rdI bF nF D rfl HO.out ?_; intro w0 hrg0 hg0 hs0)
  go_frame
  generalize w.alloc (.map #[] 0) = W1 at *
  have HB1 := Lib.hid (HB0.out.grown hg0 (by omega) (fun k hk => by cases hk))
  have HV0 := Lib.hid (show ViI rdI (fun _ => none) V bF W1.heap.size nF D w.heap.size (12 * sizeO o) w w0 from
    ⟨_, _, 0, hrg0, (HM.out.kept hg0 (by simp)).same (tF_start HD.out (fun s hs => hs)), by have := hsl.out; omega, HB1.out⟩)
  have HS := Lib.hid hsz
  clear hrg0 hg0 HM HO hsz
  go_loopw [11] (fun _ wr => Hid (ViI rdI (fun _ => none) V bF W1.heap.size nF D w.heap.size (12 * sizeO o) w wr)) (fun _ wr => wr.rangeLeft bF W1.heap.size)
  case atStart => exact HV0
  case round =>
    have HI : Hid (ViI rdI (fun _ => none) V bF W1.heap.size nF D w.heap.size (12 * sizeO o) w wr) := hrel
    clear hrel HV0
    obtain ⟨left, cnt, n, hrg, hmap, hnm, hbw⟩ := HI.out
    have HRG := Lib.hid hrg
    have HMP := Lib.hid hmap
    have HBW := Lib.hid hbw
    clear hrg hmap hbw HI
    go_wp2_with (at_next; refine wpList_next_ranges _ rfl _ rfl 9 lawK rdI Value.string (fun x : Int => .int .i64 x) (fun key kl hk => by obtain ⟨s, h1, -, -⟩ := keyS_inv hk; exact ⟨s, h1⟩) (fun v y hv => by obtain ⟨x, h1, -⟩ := rdI_cases hv; exact ⟨x, h1⟩) bF W1.heap.size nF D left cnt rfl HRG.out ?_ ?_)
    · intro _ hl0
      have HM2 := Lib.hid (HMP.out.same (tF_end hl0))
      clear hl0
      go_wp2_with fail
      go_ret
      exact ⟨⟨_, n, rfl, Nat.le_refl _, HM2.out, by show n ≤ 12 * (1 + sizeO o); omega⟩, HBW.out⟩
    · intro x c kl y1 y2 w1 cnt1 hkey hlk hv hat hrg1 hlt hg1 hs1 hen
      obtain ⟨x', hx', rfl, hxs⟩ := keyS_inv hkey
      obtain rfl : x = x' := by injection hx'
      have hy : y1 = .lit (.int .i64 c) := by
        have h5 : rdI (Value.int .i64 c) = some (.lit (.int .i64 c), []) := rfl
        rw [h5] at hv
        injection hv with hv
        injection hv with hv _
        exact hv.symm
      subst hy
      have hu := HD.out.of_at hat
      have hWs := HS.out
      have hws : w.heap.size ≤ wr.heap.size := HBW.out.size
      obtain ⟨D2, hown1, hh2⟩ := HMP.out.kept hg1 (by simp; omega)
      have HH2 := Lib.hid hh2
      have HO1 := Lib.hid (hown1)
      have hbw1 := HBW.out.grown hg1 hws (fun k hk => by cases hk; omega)
      have HBW1 := Lib.hid (hbw1)
      have HRG1 := Lib.hid (hrg1)
      have HU := Lib.hid hu
      have hz : w.heap.size ≤ w1.heap.size := hbw1.size
      clear hkey hlk hv hat hrg1 hg1 hs1 hh2 hown1 hbw1 hx' hu hWs
      go_wp2_with (at_mapUpdate; refine wpList_mapUpdate_own _ rfl _ _ _ 85 rfl _ _ lawK Tryd.underlying85 rdI w.heap.size n D2 rfl HO1.out (by unfold maxLen; omega) _ _ (keyL x) rfl rfl (key_of hxs) (.lit (.int .i64 c)) [] rfl ?_; intro w2 hown2 hgrow2)
      have hrg2 := HRG1.out.kept hgrow2 (by simp; omega) (by have := HS.out; simp; omega)
      have HN := Lib.hid (show ViI rdI (fun _ => none) V bF W1.heap.size nF D w.heap.size (12 * sizeO o) w w2 from
        ⟨_, _, n + 1, hrg2, HMap.same ⟨_, hown2, HH2.out.put HO1.out.isMap x c⟩ (tF_put HU.out), by omega, HBW1.out.grown hgrow2 hz (fun k hk => by cases hk; exact Nat.le_refl _)⟩)
      have HME := Lib.hid (show w2.rangeLeft bF W1.heap.size < wr.rangeLeft bF W1.heap.size by rw [hrg2.left_eq, HRG.out.left_eq]; exact hlt)
      clear hown2 hgrow2 hrg2
      go_frame
      go_roundw
      case rel => exact HN
      case measure => exact HME.out
theorem zeroI (w : World) : (zeroValue 53).run Tryd.prog w = .ok (.int .i64 0) w := by kernel_rfl
/-- A map of numbers asked for a key. -/
theorem look_hmap (w : World) {ops : Array Oper} {rest : List Oper} {o : Oper} {a : Act} {Q : Exit → Act → World → Prop} (hg : o.guard = none) (m x : Operand) (hop : o.op = Op.lookup 85 m x true)
    (b n : Nat) (V : ByteArray → Option Int) (s : ByteArray) (hm : a.eval m = .map (some b)) (h : HMap w b n V) (hx : a.eval x = .string s) (hs : s.size ≤ maxLen) (bb : Bool) (hb : (V s).isSome = bb)
    (hK : ∀ c : Int, wpList Tryd.prog ops Q rest (a.put o.dst (.tuple #[.int .i64 c, .bool bb])) w) : wpList Tryd.prog ops Q (o :: rest) a w := by
  obtain ⟨D, h1, h2⟩ := h
  refine wpList_lookup_own_ok w hg m x 85 hop 9 53 lawK Tryd.underlying85 rdI (zeroI w) zS [] rfl b n D hm h1 _ (keyL s) hx (key_of hs) fun v ps hv => ?_
  obtain ⟨c, rfl, -⟩ := rdI_cases hv
  rw [(h2 s).1, hb]
  exact hK c
set_option maxRecDepth 100000 in
set_option maxHeartbeats 3200000 in
theorem vis_ext_ih (l : OT) (L : AL) (v : Value) (w : World) (h : OB w w.heap.size (.ext l L) v) (hso : sizeO l ≤ 1000)
    (IH : ∀ (v : Value) (w : World), OB w w.heap.size l v → Calls Tryd.prog 37 #[v] w (ViPost l w)) :
    Calls Tryd.prog 37 #[v] w (ViPost (.ext l L) w) := by
  have hmm := @run_makeMap Tryd.prog
  obtain ⟨g, vl, vr, rfl, hg, hB, ho1, ho2⟩ := h
  have t1 := assert_ext_e ⟨g, 0, none⟩
  have hB1 := hB.alloc (.map #[] 0)
  have c0 := hB1.cell 0
  have c1 := hB1.cell 1
  simp only [List.getElem?_toArray, List.getElem?_cons_zero, List.getElem?_cons_succ] at c0 c1
  have HB0 := Lib.hid (show Below w.heap.size w (w.alloc (.map #[] 0)) from (Below.refl _ _).alloc (Nat.le_refl _) _)
  have HO1 := Lib.hid (show OB (w.alloc (.map #[] 0)) (w.alloc (.map #[] 0)).heap.size l vl from (OB.below HB0.out (Nat.le_refl _) ho1).more HB0.out.size)
  have HO2 := Lib.hid ho2
  have HBB := Lib.hid hB1
  have HIH := Lib.hid IH
  clear hB hB1 ho1 ho2 IH
  go_enter Tryd.func37, Tryd.ntmps37
  go_wp2_with fail
  refine (HIH.out vl _ HO1.out).mono ?_
  rintro e2 w2 ⟨⟨b1, n1, rfl, hb1, hm1, hn1⟩, hb2⟩
  have HB2 := Lib.hid hb2
  have hB2 := HBB.out.below hb2 HBB.out.lt
  have c1 := hB2.cell 1
  simp only [List.getElem?_toArray, List.getElem?_cons_zero, List.getElem?_cons_succ] at c1
  have HM1 := Lib.hid hm1
  have HBW2 := Lib.hid (HB0.out.trans (hb2.mono HB0.out.size))
  have hb1w : w.heap.size ≤ b1 := Nat.le_trans HB0.out.size hb1
  have HO2' := Lib.hid (show OB w2 w2.heap.size (.simple L) vr from (SiO.below HO2.out HBW2.out (Nat.le_refl _)).more HBW2.out.size)
  clear hb2 hB2 hm1 c0 hb1
  go_wp2_with fail
  refine (vis_simple L vr _ HO2'.out).mono ?_
  rintro e3 w3 ⟨⟨bF, nF, rfl, hbF, hm2, hn2⟩, hb3⟩
  obtain ⟨D, hown, hD⟩ := hm2
  have HD := Lib.hid (show HoldsF D (lookL L) from hD)
  have HO := Lib.hid hown
  have hsl := Lib.hid hown.size_le
  have hb1lt : b1 < w2.heap.size := HM1.out.lt
  have HM3 := Lib.hid (HM1.out.below hb3 hb1lt)
  have HBW3 := Lib.hid (HBW2.out.trans (hb3.mono HBW2.out.size))
  have hb1F : b1 < bF := by omega
  have hn12 : nF ≤ 12 * 1 := hn2
  clear hD hown hb3 hn2
  go_wp2_with (at_range; refine wpList_range_own _ rfl _ 85 rfl 9 53 lawK Tryd.underlying85 rdI bF nF D rfl HO.out ?_; intro w0 hrg0 hg0 hs0)
  go_frame
  have hb1W : b1 < w3.heap.size := Nat.lt_of_lt_of_le hb1F (Nat.le_of_lt HO.out.lt)
  have hws3 : w.heap.size ≤ w3.heap.size := HBW3.out.size
  have HB1 := Lib.hid (HBW3.out.grown hg0 hws3 (fun k hk => by cases hk))
  have HV0 := Lib.hid (show ViI rdI (visO l) (extF (visO l) (lookL L)) bF w3.heap.size nF D b1 (12 * sizeO l + 12) w w0 from
    ⟨_, _, n1, hrg0, (HM3.out.kept hg0 (by simp)).same (tF_start HD.out (fun s hs => by unfold extF; rw [hs])), by have := hsl.out; omega, HB1.out⟩)
  clear hrg0 hg0
  go_loopw [6] (fun _ wr => Hid (ViI rdI (visO l) (extF (visO l) (lookL L)) bF w3.heap.size nF D b1 (12 * sizeO l + 12) w wr)) (fun _ wr => wr.rangeLeft bF w3.heap.size)
  case atStart => exact HV0
  case round =>
    have HI : Hid (ViI rdI (visO l) (extF (visO l) (lookL L)) bF w3.heap.size nF D b1 (12 * sizeO l + 12) w wr) := hrel
    clear hrel HV0
    obtain ⟨left, cnt, n, hrg, hmap, hnm, hbw⟩ := HI.out
    have HRG := Lib.hid hrg
    have HMP := Lib.hid hmap
    have HBW := Lib.hid hbw
    clear hrg hmap hbw HI
    go_wp2_with (at_next; refine wpList_next_ranges _ rfl _ rfl 9 lawK rdI Value.string (fun x : Int => .int .i64 x) (fun key kl hk => by obtain ⟨s, h1, -, -⟩ := keyS_inv hk; exact ⟨s, h1⟩) (fun v y hv => by obtain ⟨x, h1, -⟩ := rdI_cases hv; exact ⟨x, h1⟩) bF w3.heap.size nF D left cnt rfl HRG.out ?_ ?_)
    · intro _ hl0
      have HM2 := Lib.hid (HMP.out.same (tF_end hl0))
      clear hl0
      go_wp2_with fail
      go_ret
      exact ⟨⟨_, n, rfl, hb1w, HM2.out, by show n ≤ 12 * (sizeO l + 1); omega⟩, HBW.out⟩
    · intro x c kl y1 y2 w1 cnt1 hkey hlk hv hat hrg1 hlt hg1 hs1 hen
      obtain ⟨x', hx', rfl, hxs⟩ := keyS_inv hkey
      obtain rfl : x = x' := by injection hx'
      have hy : y1 = .lit (.int .i64 c) := by
        have h5 : rdI (Value.int .i64 c) = some (.lit (.int .i64 c), []) := rfl
        rw [h5] at hv
        injection hv with hv
        injection hv with hv _
        exact hv.symm
      subst hy
      have hu := HD.out.of_at hat
      have hws : w.heap.size ≤ wr.heap.size := HBW.out.size
      have hM1 := HMP.out.kept hg1 (by simp; omega)
      have HM1' := Lib.hid hM1
      have hbw1 := HBW.out.grown hg1 hws (fun k hk => by cases hk; omega)
      have HBW1 := Lib.hid hbw1
      have HRG1 := Lib.hid hrg1
      have hz : w.heap.size ≤ w1.heap.size := hbw1.size
      have HT : Hid (tF left (visO l) (extF (visO l) (lookL L)) x = visO l x) := Lib.hid (by unfold tF; rw [if_pos hlk])
      have HME0 := Lib.hid (show w1.rangeLeft bF w3.heap.size < wr.rangeLeft bF w3.heap.size by rw [hrg1.left_eq, HRG.out.left_eq]; exact hlt)
      have HU := Lib.hid hu
      obtain ⟨D2, hown1, hh2⟩ := hM1
      have HH2 := Lib.hid hh2
      have HO1 := Lib.hid hown1
      clear hkey hlk hv hat hrg1 hg1 hs1 hbw1 hx' hu hh2 hown1
      by_cases hc1 : c = 1
      · subst hc1
        cases he : visO l x with
        | some e0 =>
          have HX : Hid (extF (visO l) (lookL L) x = visO l x) := Lib.hid (by unfold extF; rw [HU.out]; simp [he])
          have hsome : (tF left (visO l) (extF (visO l) (lookL L)) x).isSome = true := by rw [HT.out, he]; rfl
          have HSO := Lib.hid hsome
          clear hsome he
          go_wp2_with (at_lookup; refine look_hmap _ rfl _ _ rfl b1 n _ x rfl HM1'.out rfl hxs true HSO.out ?_; intro c9)
          have HN := Lib.hid (show ViI rdI (visO l) (extF (visO l) (lookL L)) bF w3.heap.size nF D b1 (12 * sizeO l + 12) w w1 from
            ⟨_, _, n, HRG1.out, HM1'.out.same (tF_stay HX.out), by omega, HBW1.out⟩)
          go_roundw
          case rel => exact HN
          case measure => exact HME0.out
        | none =>
          have HX : Hid (extF (visO l) (lookL L) x = some 1) := Lib.hid (by unfold extF; rw [HU.out]; simp [he])
          have hsome : (tF left (visO l) (extF (visO l) (lookL L)) x).isSome = false := by rw [HT.out, he]; rfl
          have HSO := Lib.hid hsome
          clear hsome he
          go_wp2_with (first
            | (at_lookup; refine look_hmap _ rfl _ _ rfl b1 n _ x rfl HM1'.out rfl hxs false HSO.out ?_; intro c9)
            | (at_mapUpdate; refine wpList_mapUpdate_own _ rfl _ _ _ 85 rfl _ _ lawK Tryd.underlying85 rdI b1 n D2 rfl HO1.out (by unfold maxLen; omega) _ _ (keyL x) rfl rfl (key_of hxs) (.lit (.int .i64 1)) [] rfl ?_; intro w2 hown2 hgrow2))
          have hrg2 := HRG1.out.kept hgrow2 (by simp; omega) (by simp; omega)
          have HN := Lib.hid (show ViI rdI (visO l) (extF (visO l) (lookL L)) bF w3.heap.size nF D b1 (12 * sizeO l + 12) w w2 from
            ⟨_, _, n + 1, hrg2, HMap.same ⟨_, hown2, HH2.out.put HO1.out.isMap x 1⟩ (tF_put HX.out), by omega, HBW1.out.grown hgrow2 hz (fun k hk => by cases hk; exact hb1w)⟩)
          have HME := Lib.hid (show w2.rangeLeft bF w3.heap.size < wr.rangeLeft bF w3.heap.size by rw [hrg2.left_eq, HRG.out.left_eq]; exact hlt)
          clear hown2 hgrow2 hrg2
          go_frame
          go_roundw
          case rel => exact HN
          case measure => exact HME.out
      · have HX : Hid (extF (visO l) (lookL L) x = some c) := Lib.hid (by unfold extF; rw [HU.out]; simp only; rw [if_neg hc1])
        have q1 : (c == 1) = false := by simpa using hc1
        clear hc1
        go_wp2_with (at_mapUpdate; refine wpList_mapUpdate_own _ rfl _ _ _ 85 rfl _ _ lawK Tryd.underlying85 rdI b1 n D2 rfl HO1.out (by unfold maxLen; omega) _ _ (keyL x) rfl rfl (key_of hxs) (.lit (.int .i64 c)) [] rfl ?_; intro w2 hown2 hgrow2)
        have hrg2 := HRG1.out.kept hgrow2 (by simp; omega) (by simp; omega)
        have HN := Lib.hid (show ViI rdI (visO l) (extF (visO l) (lookL L)) bF w3.heap.size nF D b1 (12 * sizeO l + 12) w w2 from
          ⟨_, _, n + 1, hrg2, HMap.same ⟨_, hown2, HH2.out.put HO1.out.isMap x c⟩ (tF_put HX.out), by omega, HBW1.out.grown hgrow2 hz (fun k hk => by cases hk; exact hb1w)⟩)
        have HME := Lib.hid (show w2.rangeLeft bF w3.heap.size < wr.rangeLeft bF w3.heap.size by rw [hrg2.left_eq, HRG.out.left_eq]; exact hlt)
        clear hown2 hgrow2 hrg2
        go_frame
        go_roundw
        case rel => exact HN
        case measure => exact HME.out
/-- How the fields of any object are seen. -/
theorem vis_any : ∀ (o : OT) (v : Value) (w : World), OB w w.heap.size o v → sizeO o ≤ 1000 → Calls Tryd.prog 37 #[v] w (ViPost o w)
  | .simple L, v, w, h, _ => vis_simple L v w h
  | .restr o V, v, w, h, hs => vis_restr o V v w h (by simp only [sizeO] at hs; omega)
  | .ext l L, v, w, h, hs => vis_ext_ih l L v w h (by simp only [sizeO] at hs; omega) fun v w h => vis_any l v w h (by simp only [sizeO] at hs; omega)
end Go.Proofs.YtkbjcpeogecbgaaDoor
