/-
  impl.Visible: the names of all fields, sorted, and how each is seen.
-/
import Derived.Test.YtkbjcpeogecbgaaDoorFvFields
namespace Go.Proofs.YtkbjcpeogecbgaaDoor
open Go.RowKit Go.Maps

def seenI (c : Int) : Int := if c = 0 then 1 else if c = 2 then 2 else 0
theorem seen_any (c : Int) (w : World) : Calls Tryd.prog 21 #[.int .i64 c] w fun e w' => e = .returned (.int .i64 (seenI c)) ∧ w = w' := by
  by_cases h0 : c = 0
  · subst h0
    go_enter Tryd.func21, Tryd.ntmps21
    go_wp2
    go_ret
    exact ⟨rfl, rfl⟩
  · have q0 : (c == 0) = false := by simpa using h0
    by_cases h2 : c = 2
    · subst h2
      clear q0 h0
      go_enter Tryd.func21, Tryd.ntmps21
      go_wp2
      go_ret
      exact ⟨rfl, rfl⟩
    · have q2 : (c == 2) = false := by simpa using h2
      have hs : seenI c = 0 := by unfold seenI; rw [if_neg h0, if_neg h2]
      rw [hs]
      clear hs h0 h2
      go_enter Tryd.func21, Tryd.ntmps21
      go_wp2
      go_ret
      exact ⟨rfl, rfl⟩
theorem zeroN (w : World) : (zeroValue 3).run Tryd.prog w = .ok (.int .i64 0) w := by kernel_rfl
/-- A map of numbers asked for a key that it has. -/
theorem wpList_look_int (w : World) {ops : Array Oper} {rest : List Oper} {o : Oper} {a : Act} {Q : Exit → Act → World → Prop} (hg : o.guard = none) (m x : Operand) (hop : o.op = Op.lookup 50 m x false)
    (b n : Nat) (D : DataW Unit) (V : ByteArray → Option Int) (s : ByteArray) (c : Int) (hm : a.eval m = .map (some b)) (h : w.ownsMap Tryd.prog 9 rdI b n D) (hD : HoldsF D V) (hx : a.eval x = .string s) (hs : s.size ≤ maxLen) (hv : V s = some c)
    (hK : wpList Tryd.prog ops Q rest (a.put o.dst (.int .i64 c)) w) : wpList Tryd.prog ops Q (o :: rest) a w := by
  refine wpList_plain hg fun K' hK' => ?_
  obtain ⟨v, ps, hrun, hv2⟩ := h.lookup lawK Tryd.underlying50 (zeroN w) (zd := zS) (zp := []) rfl (key_of hs)
  rw [(hD s).2 c hv] at hv2
  obtain ⟨c', rfl, h1⟩ := rdI_cases hv2
  injection h1 with h1 _
  injection h1 with h1
  injection h1 with _ h1
  subst h1
  unfold Oper.wp
  simp [execOp, hop, hm, hx, hrun, Result.andThen]
  exact hK' _ _ hK
def hideV (V : ByteArray → Option Int) (x : List UInt8) : Int := seenI ((V ⟨x.toArray⟩).getD 0)
/-- What stands at the head of a round of the second loop. -/
def VlI (V : ByteArray → Option Int) (bF nF : Nat) (D : DataW Unit) (w wr : World) (v u : Value) (N : Nat) (ts : List (List UInt8)) (k : Nat) : Prop :=
  wr.ownsRow w.heap.size 9 1 v N (ts.map encStr) ∧ wr.ownsRow w.heap.size 3 1 u k ((ts.take k).map fun x => .int .i64 (hideV V x)) ∧ wr.ownsMap Tryd.prog 9 rdI bF nF D ∧ Below w.heap.size w wr
theorem own_own_ne {w : World} {b1 b2 : Nat} {e1 e2 : TypeId} {s1 s2 : Nat} {v1 v2 : Value} {n1 n2 : Nat} {x1 x2 : List Value} (h1 : w.ownsRow b1 e1 s1 v1 n1 x1) (h2 : w.ownsRow b2 e2 s2 v2 n2 x2) (hne : e1 ≠ e2) :
    v1.ownBlock = none ∨ v1.ownBlock ≠ v2.ownBlock := by
  rcases h1.2 with ⟨rfl, _⟩ | ⟨g1, c1, cur1, rfl, _, hh1, _⟩
  · exact .inl rfl
  · right
    rcases h2.2 with ⟨rfl, _⟩ | ⟨g2, c2, cur2, rfl, _, hh2, _⟩
    · simp [Value.ownBlock]
    · intro h
      have : g1 = g2 := by simpa [Value.ownBlock] using h
      subst this
      rw [hh1] at hh2
      simp at hh2
      exact hne hh2.2
theorem vlI_step {V : ByteArray → Option Int} {bF nF N k g2 cap2 : Nat} {D : DataW Unit} {w wr w2 : World} {v u : Value} {ts : List (List UInt8)} {x : List UInt8} {c : Int} {ob : Obj} (h : VlI V bF nF D w wr v u N ts k) (hx : ts[k]? = some x) (hv : V ⟨x.toArray⟩ = some c)
    (hown2 : w2.ownsRow w.heap.size 3 1 (.slice (some ⟨g2, 0, none⟩) (k + 1) cap2) (k + 1) ((ts.take k).map (fun x => Value.int .i64 (hideV V x)) ++ [.int .i64 (seenI c)])) (hg : (wr.alloc ob).grownBy w2 u.ownBlock) :
    VlI V bF nF D w w2 v (.slice (some ⟨g2, 0, none⟩) (k + 1) cap2) N ts (k + 1) := by
  obtain ⟨h1, h2, h3, h4⟩ := h
  have h7 : (wr.alloc ob).heap.size = wr.heap.size + 1 := by simp
  have h8 := h4.size
  have h2a := h2.alloc ob
  refine ⟨(h1.alloc ob).kept hg (own_own_ne (h1.alloc ob) h2a (by decide)), ?_, (h3.alloc ob).kept hg (row_ne_map h2a (h3.alloc ob)), (h4.alloc h4.size ob).grown hg (by omega) (fun j hj => (h2.lt j hj).1)⟩
  rw [List.take_add_one, hx]
  simp only [Option.toList_some, List.map_append, List.map_cons, List.map_nil]
  have : hideV V x = seenI c := by unfold hideV; rw [hv]; rfl
  rw [this]
  exact hown2
def VbPost (V : ByteArray → Option Int) (w : World) (e : Ending) (w' : World) : Prop :=
  (∃ A c A2 c2 ss, e = .returned (.tuple #[.slice A ss.length c, .slice A2 ss.length c2, .bool true]) ∧ w'.ownsRow w.heap.size 9 1 (.slice A ss.length c) ss.length ((sortN ss).map encStr) ∧
    w'.ownsRow w.heap.size 3 1 (.slice A2 ss.length c2) ss.length ((sortN ss).map fun x => .int .i64 (hideV V x)) ∧ NamesOf V (fun _ => true) ss ∧ ss.length ≤ 1000 ∧ (∀ x ∈ ss, x.length ≤ maxLen)) ∧ Below w.heap.size w w'
set_option maxRecDepth 100000 in
set_option maxHeartbeats 3200000 in
theorem Visible_any (A : Option Addr) (n c : Nat) (es : List FE) (B : Nat) (w : World) (h : FSteps w B A n es) (hB : B ≤ w.heap.size) (hn : n ≤ 12) (hok : ∀ e ∈ es, OkF e) (hsz : SoundF es) :
    Calls Tryd.prog 10 #[.slice A n c] w (VbPost (visO (objE es)) w) := by
  have HL := Lib.hid h.1
  have HO := Lib.hid hok
  have HZ := Lib.hid hsz
  have K1 := Lib.hid (chain_any A n c es B w h hB hn hok)
  obtain ⟨i0, hi, hz, hsz0, hbb⟩ := info_parts info_string
  obtain ⟨i1, hi1, hz1, hsz1, hbb1⟩ := info_parts info_int
  clear h hok hsz
  go_enter Tryd.func10, Tryd.ntmps10
  go_wp2_with fail
  refine K1.out.mono ?_
  rintro e1 w1 ⟨⟨A1, c1, js, rfl, hj, hto⟩, hb1⟩
  rw [HL.out] at hj ⊢
  have hjl : js.length = n := hj.1
  have hse : js.map stJ = es.map stE := sts_eq (by rw [HL.out, hjl]) hto
  have K2 := PartVis_any A1 n c1 js w1 hj hn (okR_of (by rw [HL.out, hjl]) hto HO.out HZ.out)
  have hoe : objK (js.map stJ) n = objE es := by unfold objE; rw [hse, HL.out]
  have hosz : sizeO (objE es) ≤ 13 := by have := objK_size (es.map stE) es.length; have := HL.out; unfold objE; omega
  rw [hoe] at K2
  have K2' := Lib.hid K2
  have HB1 := Lib.hid hb1
  clear K2 hoe hse hj hto hb1 K1
  generalize objE es = o at *
  go_wp2_with fail
  refine K2'.out.mono ?_
  rintro e2 w2 ⟨⟨bF, nF, rfl, hbF, ⟨D, hown, hD⟩, hnF⟩, hb2⟩
  have HD := Lib.hid hD
  have HOW := Lib.hid hown
  have HSL := Lib.hid hown.size_le
  have HB2 := Lib.hid (HB1.out.trans (hb2.mono HB1.out.size))
  have hz1' : w.heap.size ≤ w1.heap.size := HB1.out.size
  have hz2 : w.heap.size ≤ w2.heap.size := HB2.out.size
  clear hb2 hown hD K2'
  go_wp2_with (at_range; refine wpList_range_own _ rfl _ 50 rfl 9 3 lawK Tryd.underlying50 rdI bF nF D rfl HOW.out ?_; intro w0 hrg0 hg0 hs0)
  go_frame
  have HV0 := Lib.hid (show OfI (visO o) (fun _ => true) bF w2.heap.size nF D w w0 (.slice none 0 0) from
    ⟨_, _, [], hrg0, World.ownsRow_nil _ _ _ _, Coll.start _ HD.out, by have := HSL.out; simpa using this, (fun x hx => by cases hx), HB2.out.grown hg0 hz2 (fun k hk => by cases hk)⟩)
  clear hrg0 hg0
  go_loopw [2] (fun u wr => Hid (OfI (visO o) (fun _ => true) bF w2.heap.size nF D w wr u)) (fun _ wr => wr.rangeLeft bF w2.heap.size)
  case atStart => exact HV0
  case round =>
    have HI : Hid (OfI (visO o) (fun _ => true) bF w2.heap.size nF D w wr u2) := hrel
    clear hrel HV0
    obtain ⟨left, cnt, ss, hrg, hrow, hcoll, hn', hzz, hbw⟩ := HI.out
    have HRG := Lib.hid hrg
    have HROW := Lib.hid hrow
    have HCO := Lib.hid hcoll
    have HZZ := Lib.hid hzz
    have HBW := Lib.hid hbw
    clear hrg hrow hcoll hzz hbw HI
    go_wp2_with (at_next; refine wpList_next_ranges _ rfl _ rfl 9 lawK rdI Value.string (fun x : Int => .int .i64 x) (fun key kl hk => by obtain ⟨s, h1, -, -⟩ := keyS_inv hk; exact ⟨s, h1⟩) (fun v y hv => by obtain ⟨x, h1, -⟩ := rdI_cases hv; exact ⟨x, h1⟩) bF w2.heap.size nF D left cnt rfl HRG.out ?_ ?_)
    · intro hc0 hl0
      have HN := Lib.hid (HCO.out.done hl0)
      have HM := Lib.hid HRG.out.owns
      clear hl0
      obtain ⟨A3, c3, rfl⟩ := own_form HROW.out
      have K3 := Lib.hid (sortS_any _ ss w.heap.size wr HROW.out (by omega))
      have hbs := HBW.out.size
      go_wp2_with fail
      refine K3.out.mono ?_
      rintro e3 w3 ⟨rfl, h5, h6⟩
      have hsl : (sortN ss).length = ss.length := by unfold sortN; simp
      have HV1 := Lib.hid (show VlI (visO o) bF nF D w w3 (.slice A3 ss.length c3) (.slice none 0 0) ss.length (sortN ss) 0 from
        ⟨h5, World.ownsRow_nil _ _ _ _, HM.out.kept h6 (row_ne_map HROW.out HM.out), HBW.out.grown h6 (by omega) (fun k hk => (HROW.out.lt k hk).1)⟩)
      have HSL2 := Lib.hid hsl
      clear h5 h6 hsl K3
      go_wp2_with fail
      go_loopw [3, 34] (fun u t wx => ∃ k : Nat, k ≤ ss.length ∧ t = .int .i64 k ∧ Hid (VlI (visO o) bF nF D w wx (.slice A3 ss.length c3) u ss.length (sortN ss) k)) (fun _ t _ => ss.length - (intOf t).toNat)
      case atStart => exact ⟨0, Nat.zero_le _, rfl, HV1⟩
      case round =>
        obtain ⟨k, hk, rfl, HX⟩ := hrel
        by_cases hlt : k < ss.length
        · obtain ⟨x1, x2, x3, x4⟩ := HX.out
          have hk2 : k < (sortN ss).length := by rw [HSL2.out]; exact hlt
          have hgx := List.getElem?_eq_getElem hk2
          have hmem := List.getElem_mem hk2
          rw [(sortN_perm ss).mem_iff] at hmem
          generalize (sortN ss)[k] = x at *
          obtain ⟨cx, hvx, -⟩ := (HN.out.2 x).1 hmem
          have hxl := HZZ.out x hmem
          have hxs : (⟨x.toArray⟩ : ByteArray).size ≤ maxLen := by show x.toArray.size ≤ maxLen; rw [List.size_toArray]; exact hxl
          obtain ⟨ad, u, rfl, hadb, hu, hcell⟩ := Reads.at_ (Reads.of_own x1) hlt
          have hu' : u = .string ⟨x.toArray⟩ := by
            rw [List.getElem?_map, hgx] at hu
            injection hu with hu
            exact hu.symm
          subst hu'
          have HGX := Lib.hid hgx
          have HVX := Lib.hid hvx
          have HX3 := Lib.hid x3
          have HX2 := Lib.hid x2
          have hx4 := x4.size
          have HXS := Lib.hid hxs
          clear hgx hmem hvx hxl hu x1 x2 x3 x4 hxs hk2
          generalize hsx : (⟨x.toArray⟩ : ByteArray) = s at *
          have HSX := Lib.hid hsx
          clear hsx
          go_wp2_with (first
            | (at_lookup; refine wpList_look_int _ rfl _ _ rfl bF nF D (visO o) s cx rfl HX3.out HD.out rfl HXS.out HVX.out ?_)
            | (go_at_call 21; refine (seen_any cx _).mono ?_; rintro e9 w9 ⟨rfl, rfl⟩)
            | (at_builtin; refine wpList_append_x _ rfl (.tmp 38) (.tmp 43) 25 rfl w.heap.size 3 i1 _ 1 8 Tryd.underlying25 hi1 hz1 hsz1 hbb1 rfl (by omega) u3 k _ rfl (HX2.out.alloc _) (wr.heap.size + 1) (some ⟨wr.heap.size, 0, none⟩) 1 1 [.int .i64 (seenI cx)] rfl (Reads.ofBlock (cs := #[.int .i64 (seenI cx)]) (heap_alloc_new _ _) rfl (by omega)) (by simp [Value.oneCell']) (.inr (by omega)) (by unfold maxLen; omega) (by omega) (by simp; omega) (wr.heap.size + 1) (by simp) ?_; intro g2 cap2 w4 hown2 hgrow2 hat2 hlt2))
          have HNX := Lib.hid (vlI_step HX.out HGX.out (by rw [HSX.out]; exact HVX.out) hown2 hgrow2)
          clear hown2 hgrow2 hat2
          go_roundw
          case rel => exact ⟨k + 1, by omega, by go_num, HNX⟩
          case measure => simp [intOf]; omega
        · obtain rfl : k = ss.length := by omega
          have HVL := Lib.hid HX.out
          obtain ⟨A5, c5, rfl⟩ := own_form HX.out.2.1
          go_wp2_with fail
          refine bodyPost_ret (v := .tuple #[.slice A3 ss.length c3, .slice A5 ss.length c5, .bool true]) ?_ rfl ⟨⟨A3, c3, A5, c5, ss, rfl, HX.out.1, ?_, HN.out, by omega, HZZ.out⟩, HX.out.2.2.2⟩
          · simp [results, Tryd.results10, go_sem]
          · have := HX.out.2.1
            rwa [List.take_of_length_le (by rw [HSL2.out]; exact Nat.le_refl _)] at this
    · intro x c kl y1 y2 w3 cnt1 hkey hlk hv hat hrg1 hlt hg1 hs1 hen
      obtain ⟨x', hx', rfl, hxs⟩ := keyS_inv hkey
      obtain rfl : x = x' := by injection hx'
      have hy : y1 = .lit (.int .i64 c) := by
        have h5 : rdI (Value.int .i64 c) = some (.lit (.int .i64 c), []) := rfl
        rw [h5] at hv
        injection hv with hv
        injection hv with hv _
        exact hv.symm
      subst hy
      have HU := Lib.hid (HD.out.of_at hat)
      have HIT := Lib.hid (row_ne_iter HROW.out HRG.out)
      have HRG1 := Lib.hid hrg1
      have HLK := Lib.hid hlk
      have hrow3 := HROW.out.kept hg1 (by cases hu : u2.ownBlock with | none => exact .inl rfl | some g => have h9 := HIT.out; rw [hu] at h9; exact .inr (fun e => h9 e.symm))
      have HR3 := Lib.hid hrow3
      have hbw3 := HBW.out.grown hg1 HBW.out.size (fun k hk => by cases hk; exact hz2)
      have HB3 := Lib.hid hbw3
      have hz3 : w.heap.size ≤ w3.heap.size := hbw3.size
      clear hkey hlk hv hat hrg1 hg1 hs1 hx' hrow3 hbw3
      go_wp2_with (at_builtin; refine wpList_append_x _ rfl (.tmp 26) (.tmp 28) 24 rfl w.heap.size 9 i0 _ 1 16 Tryd.underlying24 hi hz hsz0 hbb rfl (by omega) u2 ss.length _ rfl (HR3.out.alloc _) (w3.heap.size + 1) (some ⟨w3.heap.size, 0, none⟩) 1 1 [.string x] rfl (Reads.ofBlock (cs := #[.string x]) (heap_alloc_new _ _) rfl (by omega)) (by simp [Value.oneCell']) (.inr (by omega)) (by unfold maxLen; omega) (by omega) (by simp; omega) (w3.heap.size + 1) (by simp) ?_; intro g2 cap2 w4 hown2 hgrow2 hat2 hlt2)
      have HN := Lib.hid (ofI_step HRG1.out HR3.out HB3.out HCO.out (by omega) HZZ.out HLK.out HU.out rfl hxs hown2 hgrow2)
      have HM2 := Lib.hid (show w4.rangeLeft bF w2.heap.size < wr.rangeLeft bF w2.heap.size by
        have h1a := HRG1.out.alloc (.cells #[.string x] 9)
        rw [(h1a.kept hgrow2 (row_ne_map (HR3.out.alloc _) h1a.owns) (row_ne_iter (HR3.out.alloc _) h1a)).left_eq, HRG.out.left_eq]
        exact hlt)
      clear hown2 hgrow2 hat2
      go_roundw
      case rel => exact HN
      case measure => exact HM2.out
end Go.Proofs.YtkbjcpeogecbgaaDoor
