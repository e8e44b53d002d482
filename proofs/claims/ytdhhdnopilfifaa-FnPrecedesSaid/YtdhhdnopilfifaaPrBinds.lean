/-
  The builder: binds.
-/
import Derived.Test.YtdhhdnopilfifaaPrBind
namespace Go.Proofs.Ytdhhdnopilfifaa
open Go.RowKit

theorem info_bd : (Try.prog.info? 164).map (fun i => (i.zero, i.size, i.bytes)) = some (some (.agg #[.slice none 0 0, .nilIface, .slice none 0 0, .string ByteArray.empty, .slice none 0 0, .pointer none, .pointer none, .string ByteArray.empty, .int .i64 0, .int .i64 0, .int .i64 0, .int .i64 0]), 12, 168) := by kernel_rfl
theorem NodeA.mono {X : Cx} {m k : Nat} (h : NodeA X m) (hm : m ≤ k) : NodeA X k := fun j hj he => h j (Nat.le_trans hm hj) he
set_option maxRecDepth 100000 in
set_option maxHeartbeats 1600000 in
theorem binds_any (X : Cx) (hok : X.OK) (w : World) (h : X.Inv w) (m : Nat) (hN : NodeA X m) (A2 : Option Addr) (c2 : Nat) (l : List Nat) (hk : KidsOK w X.n A2 c2 l) (hr : ∀ k ∈ l, Kd X.es [32] k) (hm : ∀ k ∈ l, m ≤ k) :
    Calls Try.prog 54 #[.pointer (some ⟨X.bB, 0, none⟩), .slice A2 l.length c2] w (SlPost X w) := by
  obtain ⟨hl1, hl2, hl3⟩ := h.lts
  have H := Lib.hid h
  have HK := Lib.hid hk
  have HN := Lib.hid hN
  have HR := Lib.hid hr
  have HM := Lib.hid hm
  have hll := hk.2.2.1
  obtain ⟨i0, hi, hz, hsz, hbb⟩ := info_parts info_bd
  clear h hk hN hr hm
  go_enter Try.func54, Try.ntmps54
  go_wp2_with fail
  go_loopw [5, 7, 10] (fun u _ t wr => ∃ j : Nat, j ≤ l.length ∧ t = .int .i64 j ∧ Hid (RwI X w wr 164 12 u j)) (fun _ _ t _ => l.length - (intOf t).toNat)
  case atStart => exact ⟨0, Nat.zero_le _, rfl, Lib.hid ⟨⟨[], World.ownsRow_nil _ _ _ _⟩, H.out.go (Below.refl _ _)⟩⟩
  case round =>
    obtain ⟨j, hj, rfl, HI⟩ := hrel
    obtain ⟨⟨xs, hrow⟩, hgo⟩ := HI.out
    have HRW := Lib.hid hrow
    have HG := Lib.hid hgo
    have hzw : w.heap.size ≤ wr.heap.size := hgo.1.size
    clear hrow hgo
    by_cases hlt : j < l.length
    · have hg := List.getElem?_eq_getElem hlt
      have hmm := List.getElem_mem hlt
      generalize l[j] = k at *
      have KK := Lib.hid (bind_any X hok wr HG.out.2 k (HN.out.mono (HM.out k hmm)) (HR.out k hmm))
      obtain ⟨g, off, rfl, hgl, hc, -⟩ := (HG.out.kids H.out HK.out).cell hg
      clear hg hmm
      go_wp2_with fail
      refine KK.out.mono ?_
      rintro e1 w1 ⟨⟨tx, t9, g9, p9, rfl⟩, hgo1⟩
      have HR1 := Lib.hid (hgo1.own HG.out.2 HRW.out (by decide))
      have HG1 := Lib.hid (HG.out.trans hgo1)
      have hzw1 : w.heap.size ≤ w1.heap.size := HG1.out.1.size
      clear hgo1
      unfold bdCells
      go_wp2_with (at_builtin; refine wpList_append_x _ rfl (.tmp 14) (.tmp 18) 141 rfl w.heap.size 164 i0 _ 12 168 Try.underlying141 hi hz hsz hbb rfl (by omega) u5 j _ rfl (HR1.out.alloc _) (w1.heap.size + 1) (some ⟨w1.heap.size, 0, none⟩) 1 1 (bdCells tx (.iface t9 (.pointer (some ⟨g9, 0, none⟩))) p9).toList rfl (Reads.ofBlock (cs := bdCells tx (.iface t9 (.pointer (some ⟨g9, 0, none⟩))) p9) (heap_alloc_new _ _) rfl (by omega)) (by simp [bdCells, Value.oneCell']) (.inr (by omega)) (by unfold maxLen; omega) (by omega) (by simp; omega) (w1.heap.size + 1) (by simp) ?_; intro g2 cap2 w3 hown2 hgrow2 hat2 hlt2)
      have HX := Lib.hid (rwI_step HG1.out HR1.out hown2 hgrow2 hl1 hl2 hl3)
      clear hown2 hgrow2 hat2
      go_roundw
      case rel => exact ⟨j + 1, by omega, by go_num, HX⟩
      case measure => simp [intOf]; omega
    · obtain rfl : j = l.length := by omega
      obtain ⟨A5, c5, rfl⟩ := own_form2 HRW.out
      go_wp2_with fail
      go_ret
      exact ⟨⟨_, _, _, rfl⟩, HG.out⟩
end Go.Proofs.Ytdhhdnopilfifaa
