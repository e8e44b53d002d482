/-
  A region that draws its order, whose operations read old memory and whose calls hand back plain values and change nothing that was there: one walk in the order of the text serves every order. (The library's theorem on quiet regions, at the class of worlds in which everything that was there stands as it was.)
-/
import Derived.Test.YtpgmnggicmbacaaDoorWords
import Derived.Deep.QuietTactic
import Derived.BigQuiet
namespace Go.Proofs.YtpgmnggicmbacaaDoor
open Go.RowKit

/-- A world in which all that was there in w0 stands as it was. -/
structure Later (w0 : World) where
  val : World
  ok : Below w0.heap.size w0 val

instance laterInhabited (w0 : World) : Inhabited (Later w0) := ⟨⟨w0, Below.refl _ _⟩⟩
theorem Later.cell {w0 : World} {p : Addr} {v : Value} (h : w0.cell? p = some v) (x : Later w0) : x.val.cell? p = some v :=
  (x.ok.cell (World.block_lt_of_cell? w0 p h)).trans h
theorem Later.size {w0 : World} (x : Later w0) : w0.heap.size ≤ x.val.heap.size := x.ok.size

theorem later_call {P : Program} {f : FuncId} {args : Array Value} {w0 : World} {x : Later w0} {v : Value} (h : Calls P f args x.val fun e w' => e = .returned v ∧ Below x.val.heap.size x.val w') :
    Calls P f args x.val fun e w'' => e = .returned v ∧ ∃ y : Later w0, w'' = y.val :=
  h.mono fun _ _ ⟨he, hb⟩ => ⟨he, ⟨_, x.ok.trans (hb.mono x.ok.size)⟩, rfl⟩

theorem wp_region_later {P : Program} {id : Nat} {Q : Exit → Act → World → Prop} {a : Act} {w : World} {l : List Oper} (hm : P.follows .mixedOrders = true) (hB : Region.lexB .any l.toArray = true)
    (h : wpQuiet P l.toArray (fun w' => ∃ y : Later w, w' = y.val) (fun a' => ∀ w', (∃ y : Later w, w' = y.val) → Q .normal a' w') l a) : (Code.region id l.toArray true).wp P Q a w :=
  wp_region_quiet (C := fun w' => ∃ y : Later w, w' = y.val) hm hB ⟨⟨w.drew, (Below.refl _ _).drew⟩, rfl⟩ (by simpa using h)
end Go.Proofs.YtpgmnggicmbacaaDoor
