/-
  checkArguments: a call goes through just if callOk says so.
-/
import Derived.Test.YthinfliplpjdjaaCallLaw
import Derived.Test.YthinfliplpjdjaaSetB
import Derived.Test.YthinfliplpjdjaaNumOps3
namespace Go.Proofs.Ythinfliplpjdjaa
open Go.RowKit

/-- A param (what stands for its default, its name); an argument with a name (where it lies, its name). -/
abbrev PE := Value × ByteArray
def cells2 (e : PE) : List Value := [e.1, .string e.2]
def optOf : Value → Bool
  | .nilIface => false
  | _ => true
def Pars (w : World) (B : Nat) (A : Option Addr) (n : Nat) (es : List PE) : Prop := es.length = n ∧ Reads w B 2 A n (es.flatMap cells2)
theorem Pars.below {w w' : World} {B C : Nat} {A : Option Addr} {n : Nat} {es : List PE} (h : Pars w B A n es) (hb : Below C w w') (hC : B ≤ C) : Pars w' B A n es := ⟨h.1, h.2.below (hb.mono hC)⟩
theorem Pars.more {w : World} {B B' : Nat} {A : Option Addr} {n : Nat} {es : List PE} (h : Pars w B A n es) (hb : B ≤ B') : Pars w B' A n es := ⟨h.1, h.2.more hb⟩
theorem flat2_get : ∀ (es : List PE) (k j : Nat) (e : PE), es[k]? = some e → j < 2 → (es.flatMap cells2)[k * 2 + j]? = (cells2 e)[j]?
  | [], k, j, e, h, _ => by simp at h
  | x :: es, 0, j, e, h, hj => by
    simp at h
    subst h
    rw [List.flatMap_cons, List.getElem?_append_left (by simp [cells2]; omega)]
    simp
  | x :: es, k + 1, j, e, h, hj => by
    have hl : (cells2 x).length = 2 := rfl
    rw [List.flatMap_cons, List.getElem?_append_right (by rw [hl]; omega), hl]
    have e1 : (k + 1) * 2 + j - 2 = k * 2 + j := by omega
    rw [e1]
    exact flat2_get es k j e (by simpa using h) hj
theorem Pars.at_ {w : World} {B : Nat} {A : Option Addr} {n : Nat} {es : List PE} (h : Pars w B A n es) {k : Nat} (hk : k < n) :
    ∃ b o d s, A = some ⟨b, o, none⟩ ∧ b < B ∧ es[k]? = some (d, s) ∧ w.cell? ⟨b, o + k * 2, none⟩ = some d ∧ w.cell? ⟨b, o + k * 2 + 1, none⟩ = some (.string s) := by
  obtain ⟨hl, hr⟩ := h
  obtain ⟨ad, hA, hb, hc⟩ := hr.2 (by omega)
  have hkl : k < es.length := by omega
  have hke := List.getElem?_eq_getElem hkl
  obtain ⟨b, o, spot⟩ := ad
  have c0 := hc (0 * 2 + 0) _ (flat2_get es 0 0 _ (List.getElem?_eq_getElem (show 0 < es.length by omega)) (by omega))
  obtain rfl : spot = none := by simpa [Addr.add] using World.cell?_spot c0
  have e0 := hc (k * 2 + 0) _ (flat2_get es k 0 _ hke (by omega))
  have e1 := hc (k * 2 + 1) _ (flat2_get es k 1 _ hke (by omega))
  simp only [Addr.add_lit, ← Nat.add_assoc, Nat.add_zero] at e0 e1
  exact ⟨b, o, es[k].1, es[k].2, hA, hb, hke, e0, e1⟩
def namesP (es : List PE) : List ByteArray := es.map (·.2)
def optsP (es : List PE) : List Bool := es.map fun e => optOf e.1
theorem namesP_take {es : List PE} {k : Nat} {d : Value} {s : ByteArray} (h : es[k]? = some (d, s)) : (namesP es).take (k + 1) = (namesP es).take k ++ [s] := by
  rw [List.take_add_one]; simp [namesP, h]
theorem namesP_get {es : List PE} {k : Nat} {d : Value} {s : ByteArray} (h : es[k]? = some (d, s)) : (namesP es).getD k ByteArray.empty = s := by
  simp [namesP, List.getD, h]
theorem optsP_get {es : List PE} {k : Nat} {d : Value} {s : ByteArray} (h : es[k]? = some (d, s)) : (optsP es).getD k false = optOf d := by
  simp [optsP, List.getD, h]
theorem namesP_drop {es : List PE} {k : Nat} {d : Value} {s : ByteArray} (h : es[k]? = some (d, s)) : (namesP es).drop k = s :: (namesP es).drop (k + 1) := by
  have hk := (List.getElem?_eq_some_iff.1 h).1
  have hk' : k < (namesP es).length := by simpa [namesP] using hk
  rw [List.drop_eq_getElem_cons hk']
  have := namesP_get h
  rw [List.getD_eq_getElem?_getD, List.getElem?_eq_getElem hk'] at this
  simp at this
  rw [this]

theorem run_makeMap_hint (n : Int) (w : World) : (Instr.makeMap 160 (some (.int .i64 n))).run Try.prog w = .ok (.map (some w.heap.size)) (w.alloc (.map #[] 0)) := by
  simp [Instr.makeMap, run_underlying Try.underlying160]
  rfl

def CkPost (b : Bool) (w : World) (e : Ending) (w' : World) : Prop := ((b = true → e = .returned .nilIface) ∧ (b = false → ∃ t u, e = .returned (.iface t u))) ∧ Below w.heap.size w w'

set_option maxRecDepth 100000 in
set_option maxHeartbeats 3200000 in
theorem check_any (ig : Nat) (Ap : Option Addr) (np cp : Nat) (An : Option Addr) (nn cn : Nat) (A : Option Addr) (n c : Nat) (ps ns : List PE) (w : World) (hp : Pars w w.heap.size A n ps) (hn : Pars w w.heap.size An nn ns) (hn1 : n ≤ 100) (hn2 : nn ≤ 100) (hnp : np ≤ 200)
    (hd : ∀ e ∈ ps, e.1 = .nilIface ∨ ∃ t v, e.1 = .iface t v) (hsp : ∀ e ∈ ps, e.2.size ≤ maxLen) (hsn : ∀ e ∈ ns, e.2.size ≤ maxLen) (hdn : ∀ e ∈ ns, ∃ p, e.1 = .pointer p) (h5 : w.cell? ⟨ig, 5, none⟩ = some (.pointer none)) (h7 : w.cell? ⟨ig, 7, none⟩ = some (.slice none 0 0)) (hig : ig < w.heap.size) (r : Bool) (hr : callOk (namesP ps) (optsP ps) np (namesP ns) = r) :
    Calls Try.prog 55 #[.pointer (some ⟨ig, 0, none⟩), .agg #[.slice Ap np cp, .slice An nn cn, .bool false], .slice A n c] w (CkPost r w) := by
  have HP := Lib.hid hp
  have HN := Lib.hid hn
  have HD := Lib.hid hd
  have HSP := Lib.hid hsp
  have HSN := Lib.hid hsn
  have HDN := Lib.hid hdn
  have HR := Lib.hid hr
  have HLP : (namesP ps).length = n := by simp [namesP, hp.1]
  have HL := Lib.hid HLP
  clear hp hn hd hsp hsn hdn hr HLP
  have hmm := run_makeMap_hint
  by_cases hbig : n < np
  · have HRF : r = false := by
      rw [← HR.out]
      have : ¬ np ≤ (namesP ps).length := by rw [HL.out]; omega
      simp [callOk, this]
    have h5' : (w.alloc (.cells #[.slice Ap np cp, .slice An nn cn, .bool false] 126)).cell? ⟨ig, 5, none⟩ = some (.pointer none) := (World.cell?_alloc_lt w _ _ hig).trans h5
    have h7' : (w.alloc (.cells #[.slice Ap np cp, .slice An nn cn, .bool false] 126)).cell? ⟨ig, 7, none⟩ = some (.slice none 0 0) := (World.cell?_alloc_lt w _ _ hig).trans h7
    subst HRF
    go_enter Try.func55, Try.ntmps55
    go_wp2_with fail
    refine (error_any ig _ _ h5' h7').mono ?_
    rintro e w1 ⟨⟨u, rfl⟩, hb1⟩
    have HB := Lib.hid (((Below.refl w.heap.size w).alloc (Nat.le_refl _) _).trans (hb1.mono (by simp)))
    clear hb1
    go_wp2_with fail
    go_ret
    exact ⟨⟨fun h => (by cases h), fun _ => ⟨_, _, rfl⟩⟩, HB.out⟩
  · have hcell : ∀ W : World, Below (w.heap.size + 1) (w.alloc (.cells #[.slice Ap np cp, .slice An nn cn, .bool false] 126)) W → W.cell? ⟨ig, 5, none⟩ = some (.pointer none) ∧ W.cell? ⟨ig, 7, none⟩ = some (.slice none 0 0) ∧ W.cell? ⟨w.heap.size, 0, none⟩ = some (.slice Ap np cp) ∧ W.cell? ⟨w.heap.size, 1, none⟩ = some (.slice An nn cn) := by
      intro W hW
      have hb : Blk (w.alloc (.cells #[.slice Ap np cp, .slice An nn cn, .bool false] 126)) w.heap.size 126 #[.slice Ap np cp, .slice An nn cn, .bool false] := Blk.new w _ _
      exact ⟨(hW.cell (p := ⟨ig, 5, none⟩) (by show ig < _; omega)).trans ((World.cell?_alloc_lt w _ _ hig).trans h5), (hW.cell (p := ⟨ig, 7, none⟩) (by show ig < _; omega)).trans ((World.cell?_alloc_lt w _ _ hig).trans h7), (hW.cell (p := ⟨w.heap.size, 0, none⟩) (by show w.heap.size < _; omega)).trans (hb.cell 0), (hW.cell (p := ⟨w.heap.size, 1, none⟩) (by show w.heap.size < _; omega)).trans (hb.cell 1)⟩
    have HC := Lib.hid hcell
    have hbx0 : Below w.heap.size w (w.alloc (.cells #[.slice Ap np cp, .slice An nn cn, .bool false] 126)) := (Below.refl _ _).alloc (Nat.le_refl _) _
    have HPX := Lib.hid (HP.out.below hbx0 (Nat.le_refl _))
    have HNX := Lib.hid (HN.out.below hbx0 (Nat.le_refl _))
    have HBX0 := Lib.hid hbx0
    have hszx : (w.alloc (.cells #[.slice Ap np cp, .slice An nn cn, .bool false] 126)).heap.size = w.heap.size + 1 := by simp
    clear hcell hbx0 h5 h7
    go_enter Try.func55, Try.ntmps55
    go_wp2_with fail
    generalize w.alloc (.cells #[.slice Ap np cp, .slice An nn cn, .bool false] 126) = W1 at *
    have HS1 := Lib.hid hszx
    go_loopw [42] (fun t wr => ∃ j : Nat, j ≤ n ∧ t = .int .i64 j ∧ Hid (Below (w.heap.size + 1) W1 wr) ∧ Hid (SetB wr (w.heap.size + 1) j ((namesP ps).take j))) (fun t _ => n - (intOf t).toNat)
    case atStart =>
      refine ⟨0, Nat.zero_le _, rfl, Lib.hid ((Below.refl _ _).alloc (by omega) _), Lib.hid ?_⟩
      rw [← HS1.out]
      exact SetB.made W1
    case round =>
      obtain ⟨j, hj, rfl, HB, HSA⟩ := hrel
      have hbs := HB.out.size
      have hws : w.heap.size + 1 ≤ wr.heap.size := by omega
      by_cases hlt : j < n
      · obtain ⟨b, o, d, s, rfl, hb, hje, c0, c1⟩ := HPX.out.at_ hlt
        have d0 := (HB.out.cell (p := ⟨b, o + j * 2, none⟩) (by show b < _; omega)).trans c0
        have d1 := (HB.out.cell (p := ⟨b, o + j * 2 + 1, none⟩) (by show b < _; omega)).trans c1
        have hs := HSP.out _ (List.mem_of_getElem? hje)
        have E1 := Lib.hid (namesP_take hje)
        have hd := HD.out _ (List.mem_of_getElem? hje)
        clear c0 c1 hje
        rcases hd with hd | ⟨t, v, hd⟩
        all_goals
          (have hd' : d = _ := hd)
          subst hd'
          clear hd
          go_wp2_with (at_mapUpdate; refine wpList_set_put _ rfl _ _ _ 160 rfl Try.underlying160 (w.heap.size + 1) j _ rfl (HSA.out.alloc _) (by unfold maxLen; omega) s true rfl rfl hs ?_; intro w2 hset2 hgrow2)
          have hb2 : Below (w.heap.size + 1) W1 w2 := (HB.out.alloc hws _).grown hgrow2 (by simp; omega) (fun k hk => by cases hk; exact Nat.le_refl _)
          clear hgrow2
          go_roundw
          case rel => exact ⟨j + 1, by omega, by go_num, Lib.hid hb2, Lib.hid (by rw [E1.out]; exact hset2)⟩
          case measure => simp [intOf]; omega
      · obtain rfl : j = n := by omega
        have htk : (namesP ps).take j = namesP ps := List.take_of_length_le (by rw [HL.out]; omega)
        rw [htk] at HSA
        clear htk
        have hb1 := HB.out.alloc hws (.map #[] 0)
        obtain ⟨f5, f7, q0, q1⟩ := HC.out _ hb1
        have hlt2 := HSA.out.lt
        have HB1 := Lib.hid hb1
        have HSR := Lib.hid (SetB.made wr)
        have HSA1 := Lib.hid (HSA.out.alloc (.map #[] 0))
        have hsz2 : (wr.alloc (.map #[] 0)).heap.size = wr.heap.size + 1 := by simp
        obtain ⟨M, hM⟩ : ∃ M, wr.heap.size = M := ⟨_, rfl⟩
        rw [hM] at HSR hlt2 hsz2
        have HMM := Lib.hid hM
        clear hb1 HB HSA hM
        go_wp2_with fail
        rw [HMM.out]
        generalize wr.alloc (.map #[] 0) = W2 at *
        have HS2 := Lib.hid hsz2
        clear HMM
        go_loopw [57] (fun t wr => ∃ i : Nat, i ≤ np ∧ t = .int .i64 i ∧ Hid (Below (w.heap.size + 1) W1 wr) ∧ Hid (SetB wr (w.heap.size + 1) j (namesP ps)) ∧ Hid (SetB wr M i ((namesP ps).take i))) (fun t _ => np - (intOf t).toNat)
        case atStart => exact ⟨0, Nat.zero_le _, rfl, HB1, HSA1, HSR⟩
        case round =>
          obtain ⟨i, hi, rfl, HB2, HA2, HR2⟩ := hrel
          have hbs2 := HB2.out.size
          by_cases hlt3 : i < np
          · obtain ⟨b, o, d, s, rfl, hb, hje, c0, c1⟩ := HPX.out.at_ (show i < j by omega)
            have d1 := (HB2.out.cell (p := ⟨b, o + i * 2 + 1, none⟩) (by show b < _; omega)).trans c1
            have hs := HSP.out _ (List.mem_of_getElem? hje)
            have E1 := Lib.hid (namesP_take hje)
            clear c0 c1 hje
            go_wp2_with (at_mapUpdate; refine wpList_set_put _ rfl _ _ _ 160 rfl Try.underlying160 M i _ rfl HR2.out (by unfold maxLen; omega) s true rfl rfl hs ?_; intro w2 hset2 hgrow2)
            have hb2 : Below (w.heap.size + 1) W1 w2 := HB2.out.grown hgrow2 (by omega) (fun k hk => by cases hk; omega)
            have hA2 := HA2.out.kept hgrow2 (fun e => by cases e; omega)
            clear hgrow2
            go_roundw
            case rel => exact ⟨i + 1, by omega, by go_num, Lib.hid hb2, Lib.hid hA2, Lib.hid (by rw [E1.out]; exact hset2)⟩
            case measure => simp [intOf]; omega
          · obtain rfl : i = np := by omega
            obtain ⟨f5, f7, q0, q1⟩ := HC.out wr HB2.out
            obtain ⟨R0, hR0⟩ : ∃ R0, (namesP ps).take i = R0 := ⟨_, rfl⟩
            rw [hR0] at HR2
            have HR0 := Lib.hid hR0
            have hM0 : M < wr.heap.size := HR2.out.lt
            have HLN : (namesP ns).length = nn := by simp [namesP, HN.out.1]
            have HLN := Lib.hid HLN
            clear hR0 q0
            have hst0 : Hid (SetB wr M (i + 0) (R0 ++ (namesP ns).take 0)) := Lib.hid (by rw [List.take_zero, List.append_nil]; exact HR2.out)
            go_wp2_with fail
            go_loopw [70] (fun t wr => ∃ k : Nat, k ≤ nn ∧ t = .int .i64 k ∧ Hid (Below (w.heap.size + 1) W1 wr) ∧ Hid (SetB wr (w.heap.size + 1) j (namesP ps)) ∧ Hid (SetB wr M (i + k) (R0 ++ (namesP ns).take k)) ∧ Hid (namesOk (namesP ps) R0 (namesP ns) = namesOk (namesP ps) (R0 ++ (namesP ns).take k) ((namesP ns).drop k))) (fun t _ => nn - (intOf t).toNat)
            case atStart => exact ⟨0, Nat.zero_le _, rfl, HB2, HA2, hst0, Lib.hid (by rw [List.take_zero, List.append_nil, List.drop_zero])⟩
            case round =>
              obtain ⟨k, hk, rfl, HB3, HA3, HR3, HQ3⟩ := hrel
              have hbs3 := HB3.out.size
              by_cases hlt4 : k < nn
              · obtain ⟨b, o, d, s, rfl, hb, hje, c0, c1⟩ := HNX.out.at_ hlt4
                have d0 := (HB3.out.cell (p := ⟨b, o + k * 2, none⟩) (by show b < _; omega)).trans c0
                have d1 := (HB3.out.cell (p := ⟨b, o + k * 2 + 1, none⟩) (by show b < _; omega)).trans c1
                have hs := HSN.out _ (List.mem_of_getElem? hje)
                have E1 := Lib.hid (namesP_take hje)
                have E2 := Lib.hid (namesP_drop hje)
                obtain ⟨pp, hpp⟩ := HDN.out _ (List.mem_of_getElem? hje)
                have hpp' : d = .pointer pp := hpp
                subst hpp'
                clear c0 c1 hje hpp
                have hw3 : w.heap.size + 1 ≤ wr.heap.size := by omega
                have hb3a := HB3.out.alloc hw3 (.cells #[.pointer pp, .string s] 165)
                obtain ⟨g5, g7, -, -⟩ := HC.out _ hb3a
                have HB3a := Lib.hid hb3a
                clear hb3a
                have tok1 : True := trivial
                cases hm1 : memB s (R0 ++ (namesP ns).take k) with
                | true =>
                  have HM1 := Lib.hid hm1
                  clear hm1
                  go_wp2_with (first
                    | (at_lookup; have _t := tok1; refine wpList_set_ok _ rfl _ _ 160 rfl Try.underlying160 M (i + k) _ rfl (HR3.out.alloc _) s rfl hs true HM1.out ?_; intro v1; clear tok1)
                    | (go_at_call 71; refine (error_any ig _ _ g5 g7).mono ?_; rintro e w4 ⟨⟨u, rfl⟩, hb4⟩))
                  have HRF : r = false := by
                    rw [← HR.out]
                    have h1 : namesOk (namesP ps) R0 (namesP ns) = false := by rw [HQ3.out, E2.out, namesOk_seen HM1.out]
                    unfold callOk
                    rw [HR0.out, h1, Bool.and_false, Bool.false_and]
                  have HBF := Lib.hid (HBX0.out.trans ((HB3a.out.mono (Nat.le_succ _)).trans (hb4.mono (by simp; omega))))
                  clear hb4
                  go_ret
                  exact ⟨⟨fun h => (by rw [HRF] at h; cases h), fun _ => ⟨_, _, rfl⟩⟩, HBF.out⟩
                | false =>
                  have HM1 := Lib.hid hm1
                  clear hm1
                  have tok2 : True := trivial
                  cases hm2 : memB s (namesP ps) with
                  | false =>
                    have HM2 := Lib.hid hm2
                    clear hm2
                    go_wp2_with (first
                      | (at_lookup; have _t := tok1; refine wpList_set_ok _ rfl _ _ 160 rfl Try.underlying160 M (i + k) _ rfl (HR3.out.alloc _) s rfl hs false HM1.out ?_; intro v1; clear tok1)
                      | (at_lookup; have _t := tok2; refine wpList_set_ok _ rfl _ _ 160 rfl Try.underlying160 (w.heap.size + 1) j _ rfl (HA3.out.alloc _) s rfl hs false HM2.out ?_; intro v2; clear tok2)
                      | (go_at_call 71; refine (error_any ig _ _ g5 g7).mono ?_; rintro e w4 ⟨⟨u, rfl⟩, hb4⟩))
                    have HRF : r = false := by
                      rw [← HR.out]
                      have h1 : namesOk (namesP ps) R0 (namesP ns) = false := by rw [HQ3.out, E2.out, namesOk_none HM2.out]
                      unfold callOk
                      rw [HR0.out, h1, Bool.and_false, Bool.false_and]
                    have HBF := Lib.hid (HBX0.out.trans ((HB3a.out.mono (Nat.le_succ _)).trans (hb4.mono (by simp; omega))))
                    clear hb4
                    go_ret
                    exact ⟨⟨fun h => (by rw [HRF] at h; cases h), fun _ => ⟨_, _, rfl⟩⟩, HBF.out⟩
                  | true =>
                    have HM2 := Lib.hid hm2
                    clear hm2
                    go_wp2_with (first
                      | (at_lookup; have _t := tok1; refine wpList_set_ok _ rfl _ _ 160 rfl Try.underlying160 M (i + k) _ rfl (HR3.out.alloc _) s rfl hs false HM1.out ?_; intro v1; clear tok1)
                      | (at_lookup; have _t := tok2; refine wpList_set_ok _ rfl _ _ 160 rfl Try.underlying160 (w.heap.size + 1) j _ rfl (HA3.out.alloc _) s rfl hs true HM2.out ?_; intro v2; clear tok2)
                      | (at_mapUpdate; refine wpList_set_put _ rfl _ _ _ 160 rfl Try.underlying160 M (i + k) _ rfl (HR3.out.alloc _) (by unfold maxLen; omega) s true rfl rfl hs ?_; intro w4 hset4 hgrow4))
                    have hb4 : Below (w.heap.size + 1) W1 w4 := HB3a.out.grown hgrow4 (by simp; omega) (fun q hq => by cases hq; omega)
                    have hA4 := (HA3.out.alloc (.cells #[.pointer pp, .string s] 165)).kept hgrow4 (fun e => by cases e; omega)
                    clear hgrow4
                    go_roundw
                    case rel => exact ⟨k + 1, by omega, by go_num, Lib.hid hb4, Lib.hid hA4, Lib.hid (by rw [E1.out, ← List.append_assoc]; exact hset4), Lib.hid (by rw [HQ3.out, E2.out, namesOk_next HM1.out HM2.out, E1.out, List.append_assoc])⟩
                    case measure => simp [intOf]; omega
              · obtain rfl : k = nn := by omega
                have htk2 : (namesP ns).take k = namesP ns := List.take_of_length_le (by rw [HLN.out]; omega)
                have hdr2 : (namesP ns).drop k = [] := List.drop_eq_nil_of_le (by rw [HLN.out]; omega)
                have hq := HQ3.out
                rw [htk2, hdr2] at hq
                have hok : namesOk (namesP ps) R0 (namesP ns) = true := by rw [hq]; rfl
                rw [htk2] at HR3
                have HOK := Lib.hid hok
                clear hq htk2 hdr2 hok
                go_wp2_with fail
                go_loopw [101] (fun t wr => ∃ m : Nat, m ≤ j ∧ t = .int .i64 m ∧ Hid (Below (w.heap.size + 1) W1 wr) ∧ Hid (SetB wr M (i + k) (R0 ++ namesP ns)) ∧ Hid (∀ q, q < m → (memB ((namesP ps).getD q ByteArray.empty) (R0 ++ namesP ns) || (optsP ps).getD q false) = true)) (fun t _ => j - (intOf t).toNat)
                case atStart => exact ⟨0, Nat.zero_le _, rfl, HB3, HR3, Lib.hid (fun q hq => by omega)⟩
                case round =>
                  obtain ⟨m, hm, rfl, HB4, HR4, HQ4⟩ := hrel
                  have hbs4 := HB4.out.size
                  by_cases hlt5 : m < j
                  · obtain ⟨b, o, d, s, rfl, hb, hje, c0, c1⟩ := HPX.out.at_ hlt5
                    have d0 := (HB4.out.cell (p := ⟨b, o + m * 2, none⟩) (by show b < _; omega)).trans c0
                    have d1 := (HB4.out.cell (p := ⟨b, o + m * 2 + 1, none⟩) (by show b < _; omega)).trans c1
                    have hs := HSP.out _ (List.mem_of_getElem? hje)
                    have G1 := Lib.hid (namesP_get hje)
                    have G2 := Lib.hid (optsP_get hje)
                    have hd := HD.out _ (List.mem_of_getElem? hje)
                    have hw4 : w.heap.size + 1 ≤ wr.heap.size := by omega
                    have hjl : m < (namesP ps).length := by rw [HL.out]; omega
                    clear c0 c1 hje
                    have key : (memB s (R0 ++ namesP ns) || optOf d) = true → ∀ q, q < m + 1 → (memB ((namesP ps).getD q ByteArray.empty) (R0 ++ namesP ns) || (optsP ps).getD q false) = true := by
                      intro h q hq
                      rcases Nat.lt_or_ge q m with h2 | h2
                      · exact HQ4.out q h2
                      · obtain rfl : q = m := by omega
                        rw [G1.out, G2.out]; exact h
                    have KEY := Lib.hid key
                    have nok : (memB s (R0 ++ namesP ns) || optOf d) = false → r = false := by
                      intro h
                      rw [← HR.out]
                      have h1 : hasAll (namesP ps) (optsP ps) (R0 ++ namesP ns) = false := by
                        unfold hasAll
                        rw [List.all_eq_false]
                        refine ⟨m, List.mem_range.2 hjl, ?_⟩
                        rw [G1.out, G2.out, h]; simp
                      unfold callOk
                      rw [HR0.out, h1, Bool.and_false]
                    have NOK := Lib.hid nok
                    have tok1 : True := trivial
                    clear key nok
                    rcases hd with hd | ⟨t, v, hd⟩
                    · have hd' : d = _ := hd
                      subst hd'
                      clear hd
                      have hb4a := HB4.out.alloc hw4 (.cells #[.nilIface, .string s] 163)
                      obtain ⟨g5, g7, -, -⟩ := HC.out _ hb4a
                      have HB4a := Lib.hid hb4a
                      clear hb4a
                      cases hm1 : memB s (R0 ++ namesP ns) with
                      | true =>
                        have HM1 := Lib.hid hm1
                        clear hm1
                        go_wp2_with (at_lookup; have _t := tok1; refine wpList_set_ok _ rfl _ _ 160 rfl Try.underlying160 M (i + k) _ rfl (HR4.out.alloc _) s rfl hs true HM1.out ?_; intro v1; clear tok1)
                        go_roundw
                        case rel => exact ⟨m + 1, by omega, by go_num, HB4a, Lib.hid (HR4.out.alloc _), Lib.hid (KEY.out (by rw [HM1.out]; rfl))⟩
                        case measure => simp [intOf]; omega
                      | false =>
                        have HM1 := Lib.hid hm1
                        clear hm1
                        go_wp2_with (first
                          | (at_lookup; have _t := tok1; refine wpList_set_ok _ rfl _ _ 160 rfl Try.underlying160 M (i + k) _ rfl (HR4.out.alloc _) s rfl hs false HM1.out ?_; intro v1; clear tok1)
                          | (go_at_call 71; refine (error_any ig _ _ g5 g7).mono ?_; rintro e w4 ⟨⟨u, rfl⟩, hb4⟩))
                        have HRF := NOK.out (by rw [HM1.out]; rfl)
                        have HBF := Lib.hid (HBX0.out.trans ((HB4a.out.mono (Nat.le_succ _)).trans (hb4.mono (by simp; omega))))
                        clear hb4
                        go_ret
                        exact ⟨⟨fun h => (by rw [HRF] at h; cases h), fun _ => ⟨_, _, rfl⟩⟩, HBF.out⟩
                    · have hd' : d = _ := hd
                      subst hd'
                      clear hd
                      have hb4a := HB4.out.alloc hw4 (.cells #[.iface t v, .string s] 163)
                      have HB4a := Lib.hid hb4a
                      clear hb4a
                      cases hm1 : memB s (R0 ++ namesP ns) with
                      | true =>
                        have HM1 := Lib.hid hm1
                        clear hm1
                        go_wp2_with (at_lookup; have _t := tok1; refine wpList_set_ok _ rfl _ _ 160 rfl Try.underlying160 M (i + k) _ rfl (HR4.out.alloc _) s rfl hs true HM1.out ?_; intro v1; clear tok1)
                        go_roundw
                        case rel => exact ⟨m + 1, by omega, by go_num, HB4a, Lib.hid (HR4.out.alloc _), Lib.hid (KEY.out (by rw [HM1.out]; rfl))⟩
                        case measure => simp [intOf]; omega
                      | false =>
                        have HM1 := Lib.hid hm1
                        clear hm1
                        go_wp2_with (at_lookup; have _t := tok1; refine wpList_set_ok _ rfl _ _ 160 rfl Try.underlying160 M (i + k) _ rfl (HR4.out.alloc _) s rfl hs false HM1.out ?_; intro v1; clear tok1)
                        go_roundw
                        case rel => exact ⟨m + 1, by omega, by go_num, HB4a, Lib.hid (HR4.out.alloc _), Lib.hid (KEY.out (by rw [HM1.out]; rfl))⟩
                        case measure => simp [intOf]; omega
                  · obtain rfl : m = j := by omega
                    have HRT : r = true := by
                      rw [← HR.out]
                      have h1 : hasAll (namesP ps) (optsP ps) (R0 ++ namesP ns) = true := by
                        unfold hasAll
                        rw [List.all_eq_true]
                        intro q hq
                        rw [List.mem_range, HL.out] at hq
                        exact HQ4.out q hq
                      have h2 : i ≤ (namesP ps).length := by rw [HL.out]; omega
                      unfold callOk
                      rw [HR0.out, h1, HOK.out, decide_eq_true h2]; rfl
                    have HBF := Lib.hid (HBX0.out.trans (HB4.out.mono (Nat.le_succ _)))
                    go_wp2_with fail
                    go_ret
                    exact ⟨⟨fun _ => rfl, fun h => (by rw [HRT] at h; cases h)⟩, HBF.out⟩
end Go.Proofs.Ythinfliplpjdjaa
