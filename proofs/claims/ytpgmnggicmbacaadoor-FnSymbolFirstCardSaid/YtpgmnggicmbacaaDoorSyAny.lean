/-
  A region that draws its order and whose last operation waits for all others: a condition on the world serves every operation but the last.
-/
import Derived.Test.YtpgmnggicmbacaaDoorWords
import Derived.OrdersHeld
import Derived.StillTail
namespace Go.Proofs.YtpgmnggicmbacaaDoor
open Go Go.RowKit
set_option linter.unusedVariables false
set_option linter.unusedSimpArgs false

section
variable {P : Program} {ops : Array Oper} {Q : Exit → Act → World → Prop} {md : Region.Mode} {S : World → Prop} {n : Nat}
/-- Whatever comes up: behind each operation but number n the condition holds. -/
def anyBut (P : Program) (md : Region.Mode) (ops : Array Oper) (Q : Exit → Act → World → Prop) (S : World → Prop) (n : Nat) : Nat → Array Bool → Act → World → Prop
  | 0, listed, a, w => Region.ready md ops listed = [] ∧ Q .normal a w
  | fuel + 1, listed, a, w =>
    (Region.ready md ops listed = [] → Q .normal a w) ∧
    ∀ i ∈ Region.ready md ops listed, wpOp P ops Q i (fun a' w' => (i ≠ n → S w') ∧ anyBut P md ops Q S n fuel (listed.setIfInBounds i true) a' w') a w
theorem any_of_but : ∀ (fuel : Nat) (listed : Array Bool) (a : Act) (w : World), anyBut P md ops Q S n fuel listed a w → wpAny P md ops Q fuel listed a w
  | 0, _, _, _, h => h
  | fuel + 1, _, _, _, h => ⟨h.1, fun i hi => wpOp_mono (fun a' w' h' => any_of_but fuel _ a' w' h'.2) (h.2 i hi)⟩
/-- An operation that yields one value wherever the condition holds is taken first. -/
theorem but_first {i : Nat} {oi : Oper} {v : Value} (hi : ops[i]? = some oi) (hsel : ∀ (j : Nat) (o : Oper) cs b, ops[j]? = some o → o.op ≠ .select cs b)
    (hsink : Region.sinkB md ops n = true) (hch : Region.chainB md ops n = true) (hn : n < ops.size) (hin : i < n)
    (hQ : ∀ c a w, Q (.panic c) (a.put oi.dst v) w → Q (.panic c) a w) :
    ∀ (fuel : Nat) (listed : Array Bool) (a : Act) (w : World), HeadInv md ops n listed →
      (∀ j oj, ops[j]? = some oj → j ≠ i → listed.getD j true = false → (∀ e ∈ oj.after, Region.binds md e = true → e.on ≠ i) → oi.apart ops oj = true) →
      i ∈ Region.ready md ops listed → YieldsIf P ops S oi v a → S w →
      anyBut P md ops Q S n fuel (listed.setIfInBounds i true) (a.put oi.dst v) w → anyBut P md ops Q S n (fuel + 1) listed a w
  | 0, listed, a, w, inv, _, hr, hy, hS, H => by
    refine ⟨fun h => (by rw [h] at hr; cases hr), fun j hj => ?_⟩
    by_cases hji : j = i
    · subst hji
      exact hy.wpOp hi hS ⟨fun _ => hS, H⟩
    · have := ready_mono hj hji
      rw [H.1] at this
      cases this
  | fuel + 1, listed, a, w, inv, hfree, hr, hy, hS, H => by
    have hun := (mem_ready.1 hr).1
    refine ⟨fun h => (by rw [h] at hr; cases hr), fun j hj => ?_⟩
    by_cases hji : j = i
    · subst hji
      exact hy.wpOp hi hS ⟨fun _ => hS, H⟩
    · have hjn : j < n := by
        rcases Nat.lt_or_ge j n with h | h
        · exact h
        · exact absurd hj (tail_waits hsink hch hn inv _ i rfl hin hun j h)
      obtain ⟨hjun, oj, hoj, hall⟩ := mem_ready.1 hj
      have hno : ∀ e ∈ oj.after, Region.binds md e = true → e.on ≠ i := fun e he hb heq => by
        have h1 := hall e he hb
        rw [heq, getD_both hun] at h1
        cases h1
      have h2 := wpOp_putIf hoj (hfree j oj hoj hji hjun hno) (fun cs b => hsel i oi cs b hi) (fun cs b => hsel j oj cs b hoj) hQ hy (H.2 j (ready_mono hj hji))
      refine wpOp_mono (fun a' w' h3 => ⟨h3.2.1, ?_⟩) h2
      refine but_first hi hsel hsink hch hn hin hQ fuel (listed.setIfInBounds j true) a' w' (inv.set hj hjn) (fun k ok hk hki hku hkn => ?_) (ready_mono hr (Ne.symm hji)) h3.1 (h3.2.1 (by omega)) ?_
      · refine hfree k ok hk hki ?_ hkn
        by_cases hjk : j = k
        · subst hjk; exact hjun
        · rw [getD_set_ne true hjk] at hku; exact hku
      · rw [Array.setIfInBounds_comm _ _ hji]
        exact h3.2.2
/-- The list of what has come up, kept beside its own law. -/
def ButL (P : Program) (ops : Array Oper) (Q : Exit → Act → World → Prop) (S : World → Prop) (n fuel : Nat) (listed : Array Bool) (a : Act) (w : World) : Prop := HeadInv .any ops n listed → anyBut P .any ops Q S n fuel listed a w
theorem but_take {i : Nat} {oi : Oper} {v : Value} {fuel : Nat} {listed : Array Bool} {a : Act} {w : World} (hi : ops[i]? = some oi) (hs : Region.noSelect ops = true)
    (hsink : Region.sinkB .any ops n = true) (hch : Region.chainB .any ops n = true) (hb : (decide (n < ops.size) && decide (i < n)) = true)
    (hf : Region.free .any ops listed i = true) (hr : (Region.ready .any ops listed).contains i = true)
    (hQ : ∀ c a w, Q (.panic c) (a.put oi.dst v) w → Q (.panic c) a w) (hy : YieldsIf P ops S oi v a) (hS : S w)
    (h : ButL P ops Q S n fuel (listed.setIfInBounds i true) (a.put oi.dst v) w) : ButL P ops Q S n (fuel + 1) listed a w := by
  simp only [Bool.and_eq_true, decide_eq_true_eq] at hb
  have hr2 : i ∈ Region.ready .any ops listed := by simpa using hr
  exact fun inv => but_first hi (Region.noSelect_spec hs) hsink hch hb.1 hb.2 hQ fuel listed a w inv (Region.free_spec hi hf) hr2 hy hS (h (inv.set hr2 hb.2))
/-- One operation alone may come up. -/
theorem but_one {i : Nat} {o : Oper} {fuel : Nat} {listed : Array Bool} {a : Act} {w : World} (hi : ops[i]? = some o) (hr : Region.ready .any ops listed = [i]) (hin : decide (i < n) = true)
    (h : ∀ K' : Act → World → Prop, Hid (∀ a w, S w → ButL P ops Q S n fuel (listed.setIfInBounds i true) a w → K' a w) → if Region.wanted o (yielded ops a.tmps) = true then Oper.wp P o a w K' Q else K' (a.put o.dst undef) w) : ButL P ops Q S n (fuel + 1) listed a w := by
  intro inv
  have hm : i ∈ Region.ready .any ops listed := by rw [hr]; exact List.mem_cons_self
  have hi' : i < n := by simpa using hin
  refine ⟨fun h0 => (by rw [hr] at h0; cases h0), fun j hj => ?_⟩
  rw [hr] at hj
  obtain rfl : j = i := by simpa using hj
  exact wpOp_step hi (fun K' hK => h K' (Lib.hid fun a w hS hB => hK a w ⟨fun _ => hS, hB (inv.set hm hi')⟩))
/-- The last one. -/
theorem but_last {o : Oper} {fuel : Nat} {listed : Array Bool} {a : Act} {w : World} (hi : ops[n]? = some o) (hr : Region.ready .any ops listed = [n]) (hr2 : Region.ready .any ops (listed.setIfInBounds n true) = [])
    (h : ∀ K' : Act → World → Prop, Hid (∀ a w, Q .normal a w → K' a w) → if Region.wanted o (yielded ops a.tmps) = true then Oper.wp P o a w K' Q else K' (a.put o.dst undef) w) : ButL P ops Q S n (fuel + 1) listed a w := by
  intro _
  refine ⟨fun h0 => (by rw [hr] at h0; cases h0), fun j hj => ?_⟩
  rw [hr] at hj
  obtain rfl : j = n := by simpa using hj
  refine wpOp_step hi (fun K' hK => h K' (Lib.hid fun a w hq => hK a w ⟨fun h => absurd rfl h, ?_⟩))
  cases fuel with
  | zero => exact ⟨hr2, hq⟩
  | succ f => exact ⟨fun _ => hq, by rw [hr2]; simp⟩
theorem but_start {id : Nat} {a : Act} {w : World} (hm : P.follows .mixedOrders = true) (_hn : decide (n < ops.size) = true)
    (h : ButL P ops Q S n ops.size (Array.replicate ops.size false) a w.drew) : (Code.region id ops true).wp P Q a w := by
  refine wp_region_any hm (any_of_but (n := n) (S := S) _ _ _ _ (h ⟨by simp, fun j oj hj hl => ?_, fun t _ ht => ?_⟩))
  · rw [getD_replicate_false] at hl
    cases hl
  · simp [ht]
end
end Go.Proofs.YtpgmnggicmbacaaDoor
