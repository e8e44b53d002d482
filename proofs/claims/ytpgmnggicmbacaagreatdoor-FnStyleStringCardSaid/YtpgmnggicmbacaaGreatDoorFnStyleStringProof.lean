/-
  FnStyleString: for every text, kind and style the statement's function answers true; what it reads of packages utf8, hex and bits is tied by the card.
-/
import Derived.Test.YtpgmnggicmbacaaGreatDoorSsWalk
import Derived.Test.YtpgmnggicmbacaaGreatDoorBase
import Derived.Test.YtpgmnggicmbacaaGreatDoorTie
import Derived.Test.YtpgmnggicmbacaaGreatDoorCards
import Derived.WalkKit
import Derived.ProofKit
import Derived.PinnedBridge
import Derived.Lay
import Derived.LaidOnce
import Derived.SevenTiedAt
import Derived.Lib.LaidU8T
import Derived.Lib.LaidTab
import Derived.LaidLaws
namespace Go.Proofs.YtpgmnggicmbacaaGreatDoor
open Go.ChangeShapes Go.WideShapes Go.ChangeAt Go.RowKit Go.Shelf Go.Lib
open Go.ChangeMaps (open_string shut_string)

theorem accept_eq : (Rows.laid_unicode_utf8_acceptRanges : DataW Unit) = Lib.acceptData := by kernel_rfl
def dbZ : List Int := [0, 1, 56, 2, 57, 49, 28, 3, 61, 58, 42, 50, 38, 29, 17, 4, 62, 47, 59, 36, 45, 43, 51, 22, 53, 39, 33, 30, 24, 18, 12, 5, 63, 55, 48, 27, 60, 41, 37, 16, 46, 35, 44, 21, 52, 32, 23, 11, 54, 26, 40, 15, 34, 20, 31, 10, 25, 14, 19, 9, 13, 8, 7, 6]
theorem db_eq : (Rows.laid_math_bits_deBruijn64tab : DataW Unit) = Lib.tabData .u8 dbZ := by kernel_rfl
theorem db_of_reads {w : World} (h : Lib.VarReads Tryz.prog w "math/bits.deBruijn64tab" (Lib.tabData .u8 dbZ)) : w.cell? ⟨6, 15, none⟩ = some (.int .u8 4) := by
  obtain ⟨g, t, cs, fuel, p, hg, hty, hvar, hd⟩ := h
  obtain rfl := Option.some.inj ((show Tryz.prog.globalNamed "math/bits.deBruijn64tab" = some 6 by kernel_rfl).symm.trans hg)
  obtain rfl := Option.some.inj ((show (Tryz.prog.globals[6]?).map (·.type) = some 125 by kernel_rfl).symm.trans hty)
  have hcs := Lib.cells_of_tab Tryz.underlying125 Tryz.underlying5 (by kernel_rfl) (by kernel_rfl) hd
  have := World.var?_cell hg hvar 15
  rw [this, ← Array.getElem?_toList, hcs]
  rfl
theorem err_of_reads {w : World} (h : Lib.VarReads Tryz.prog w "encoding/hex.ErrLength" Rows.laid_encoding_hex_ErrLength) : ∃ ev, w.cell? ⟨3, 0, none⟩ = some ev := by
  obtain ⟨g, t, cs, fuel, p, hg, hty, hvar, hd⟩ := h
  obtain rfl := Option.some.inj ((show Tryz.prog.globalNamed "encoding/hex.ErrLength" = some 3 by kernel_rfl).symm.trans hg)
  obtain rfl := Option.some.inj ((show (Tryz.prog.globals[3]?).map (·.type) = some 36 by kernel_rfl).symm.trans hty)
  obtain ⟨f2, u, v, hcs, -, -⟩ := iface_of_trod Tryz.underlying36 hd
  have := World.var?_cell hg hvar 0
  rw [← Array.getElem?_toList, hcs] at this
  exact ⟨_, this⟩
set_option maxRecDepth 100000 in
theorem fnStyleString_lifted (os : Os) (started : os.Started) (H : Type) (enc : TypeId × Value → H) :
    ReturnsInHanded {} Tryz.checked os 3 .any (fun w args => (Rows.fnStyleStringSpec.pre enc Tryz.prog Tryz.f3 [] false w args ∧ laidMetH Tryz.prog Rows.fnStyleStringRow.laid w) ∧ sizedMet enc Tryz.prog Tryz.f3 (OpenSpec.ofChange Rows.fnStyleStringSpec) false w args)
      (Rows.fnStyleStringSpec.post enc Tryz.prog Tryz.f3 false true false false) := by
  refine returnsInHanded_of_change_and (C := Tryz.checked) (X := fun w _ => laidMetH Tryz.prog Rows.fnStyleStringRow.laid w) (fun _ _ _ hh h => h.of_heap hh) own started (by kernel_rfl) Tryz.func3
    (ChangeSpec.witness_shaped (enc := enc) (C := Tryz.checked) (os := os) (X := fun w _ => laidMetH Tryz.prog Rows.fnStyleStringRow.laid w) false (World.laidAll Tryz.prog os Rows.fnStyleStringRow.laid) #[.string ⟨#[]⟩, .int .u8 0, .int .u8 0] 8 (World.laidAll_os _ _ _)
      (World.shaped_of_ZipB (by kernel_rfl) (by kernel_rfl)) (by kernel_rfl) (by kernel_rfl) (by kernel_rfl)
      (by rw [MakeChecks.laidMetH_plain _ _ _ (by kernel_rfl)]; exact laidMet_laidAll _ (by kernel_rfl) (by kernel_rfl))) ?_
  intro W base args ds gs before hval0 hW _ _ hL _
  have hval : ∀ (j : Nat) t v, Tryz.f3.params[j]? = some t → args[j]? = some v → Value.okWide Tryz.prog W .any base t v := hval0
  have hW' := hW
  obtain ⟨p, q, hA0, hV, rfl, hfz, hnd⟩ := hW
  have hA : DataW.TrodAll enc Tryz.prog W 0 (fun _ => true) true Tryz.f3.params.toList args.toList ds p := hA0
  rw [Tryz.params3] at hA hval
  obtain ⟨v0, vs0, d0, ds0, p0, q0, hargs, rfl, rfl, h0, r0⟩ := trodAll_cons hA
  obtain ⟨v1, vs1, d1, ds1, p1, q1, rfl, rfl, rfl, h1, r1⟩ := trodAll_cons r0
  obtain ⟨v2, vs2, d2, ds2, p2, q2, rfl, rfl, rfl, h2, r2⟩ := trodAll_cons r1
  obtain ⟨rfl, rfl, rfl⟩ := trodAll_nil r2
  obtain rfl : args = #[v0, v1, v2] := by cases args; simp_all
  obtain ⟨rfl, rfl⟩ := trodVars_none hV
  have k0 := h0
  have lt0 : ∀ x ∈ p0, x.block < W.heap.size := by obtain ⟨m, hm⟩ := k0; exact DataW.trod_lt m _ _ _ hm
  have k1 := h1
  have lt1 : ∀ x ∈ p1, x.block < W.heap.size := by obtain ⟨m, hm⟩ := k1; exact DataW.trod_lt m _ _ _ hm
  have k2 := h2
  have lt2 : ∀ x ∈ p2, x.block < W.heap.size := by obtain ⟨m, hm⟩ := k2; exact DataW.trod_lt m _ _ _ hm
  obtain ⟨s, rfl, _, _, ws⟩ := open_string Tryz.underlying9 (hval 0 9 v0 rfl rfl) h0
  obtain ⟨z1, rfl, _, _, wz1⟩ := open_int Tryz.underlying5 (hval 1 5 v1 rfl rfl) h1
  obtain ⟨z2, rfl, _, _, wz2⟩ := open_int Tryz.underlying5 (hval 2 5 v2 rfl rfl) h2
  have b1 : 0 ≤ z1 ∧ z1 ≤ 255 := by simpa [Lit.wf, IntKind.min, IntKind.max, IntKind.signed, IntKind.bits] using wz1
  have b2 : 0 ≤ z2 ∧ z2 ≤ 255 := by simpa [Lit.wf, IntKind.min, IntKind.max, IntKind.signed, IntKind.bits] using wz2
  obtain ⟨u1, rfl⟩ : ∃ u : Nat, z1 = (u : Int) := ⟨z1.toNat, by omega⟩
  obtain ⟨u2, rfl⟩ : ∃ u : Nat, z2 = (u : Int) := ⟨z2.toNat, by omega⟩
  clear hA0 hval0
  rw [MakeChecks.laidMetH_plain _ _ _ (by kernel_rfl)] at hL
  have hU : Lib.Utf8Tabs 0 1 W :=
    utf8Tabs_of_readsT (ρ := laysLaysn197_ren) { laysLaysn197 with } ⟨by kernel_rfl, by kernel_rfl, by kernel_rfl, by kernel_rfl, by kernel_rfl, by kernel_rfl, by kernel_rfl⟩ (Pinned.utf8First_eq ▸ Lib.laidMet.reads hL (.tail _ (.tail _ (.tail _ (.tail _ (.tail _ (.tail _ (.head _)))))))) (accept_eq ▸ Lib.laidMet.reads hL (.tail _ (.tail _ (.tail _ (.head _)))))
  have hT : Tabs3 W := ⟨hU, err_of_reads (Lib.laidMet.reads hL (.tail _ (.tail _ (.tail _ (.tail _ (.tail _ (.head _))))))), db_of_reads (db_eq ▸ Lib.laidMet.reads hL (.tail _ (.head _)))⟩
  refine (style_walk s u1 u2 (by omega) (by omega) ws W hT).mono fun e W' ⟨he, bel⟩ => ?_
  subst he
  exact ⟨_, rfl, _, _, _, [], _, [], hW', trodAll_mk1 (shut_bool Tryz.underlying4 _), (trodAll_cons_mk (Below.trod laidOut (by kernel_rfl) (of_decide_eq_true (by kernel_rfl)) k0 bel lt0) (trodAll_cons_mk (Below.trod laidOut (by kernel_rfl) (of_decide_eq_true (by kernel_rfl)) k1 bel lt1) (trodAll_cons_mk (Below.trod laidOut (by kernel_rfl) (of_decide_eq_true (by kernel_rfl)) k2 bel lt2) trodAll_mk0))), rfl, bel.frame _, fun h => by cases h⟩

theorem fnStyleString_holds : Rows.FnStyleStringSaid :=
  OpenClaim.holds_of_wide 3 Tryz.f3 rfl rfl rfl rfl rfl rfl rfl ⟨rfl, rfl, rfl, rfl, rfl⟩ rfl rfl rfl rfl rfl (by kernel_rfl) Tryz.func3 (by kernel_rfl)
    (of_decide_eq_true (by kernel_rfl)) (by unfold Func.isWrapper; first | (rw [if_pos (by decide +kernel)]; kernel_rfl) | (rw [if_neg (by decide +kernel)]; exact ⟨rfl, rfl⟩))
    (fun os started H enc _ => fnStyleString_lifted os started H enc)
theorem fnStyleStringCard_holds : Rows.FnStyleStringCardSaid :=
  Claim7.holds_tied_plain_at .later [] [.data, .data, .data, .data, .sentinel, .sentinel, .pinned] true (true, "a514f1d1ef78472ea6c50e28a1321d096fe3366c346352d04f377b4f682da061") false fnStyleString_holds (fun _ h => by cases h) (by kernel_rfl) (fun _ h => by cases h) fnStyleString_row_tie rfl ⟨rfl, rfl⟩ (by kernel_rfl) rfl
    (fun f fn hf hfn => by
      obtain rfl : f = 3 := Option.some.inj ((show Tryz.prog.funcNamed "given.example/pub-rondel/laws.FnStyleString" = some 3 by kernel_rfl).symm.trans hf) |>.symm
      obtain rfl : fn = Tryz.f3 := (Option.some.inj (Tryz.func3.symm.trans hfn)).symm
      exact ⟨by kernel_rfl, fun j t ht => by
        rw [Tryz.params3] at ht
        have hm : t ∈ [9, 5, 5] := by simpa using Array.mem_of_getElem? ht
        have hall : ([9, 5, 5].all fun u => !Tryz.prog.wantsStandIn u) = true := by kernel_rfl
        exact (show Tryz.prog.wantsStandIn t = false by simpa using List.all_eq_true.1 hall t hm)⟩)
    (by kernel_rfl)
#print axioms fnStyleStringCard_holds
end Go.Proofs.YtpgmnggicmbacaaGreatDoor
