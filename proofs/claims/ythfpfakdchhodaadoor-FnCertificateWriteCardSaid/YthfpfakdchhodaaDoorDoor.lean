/- What the listed package-level variables hold, for the walks: a sentinel error is an interface value over a pointer that is not nil. -/
import Derived.Test.YthfpfakdchhodaaDoorBase
import Derived.Test.YthfpfakdchhodaaDoorTie
import Derived.Test.YthfpfakdchhodaaDoorCards
import Derived.Stop.LaidErr
import Derived.LaidMore
import Derived.SevenTiedAt
import Derived.Stop.Joined
namespace Go.Proofs.YthfpfakdchhodaaDoor
open Go.RowKit Go.ChangeShapes Go.WideShapes Go.ChangeAt
set_option linter.unusedVariables false

/-- Variable g holds an error of type T, not nil. -/
def ErrAt (T g : Nat) (w : World) : Prop := ∃ a, w.cell? ⟨g, 0, none⟩ = some (.iface T (.pointer (some a)))
theorem ErrAt.below {T g : Nat} {w w' : World} (h : ErrAt T g w) (hb : Below w.heap.size w w') : ErrAt T g w' := by
  obtain ⟨a, h⟩ := h
  exact ⟨a, (hb.cell (p := ⟨g, 0, none⟩) (World.block_lt_of_cell? w _ h)).trans h⟩

theorem errStar : "*errors.errorString" = "*" ++ "errors.errorString" := rfl
theorem errRow (u : TypeId) (h : Tryd.prog.typeName? 3 u = some "*errors.errorString") : u = 205 :=
  typeName_ptr_named (nm := "errors.errorString") (by rw [← errStar]; kernel_rfl) (by kernel_rfl) (by decide) u (by rw [← errStar]; exact h)
theorem errAt_of_laid {W : World} {n : String} {text : List UInt8} {g : Nat} {r : List (String × DataW Unit)} (h : laidMet Tryd.prog ((n, .iface "*errors.errorString" (.ptr (.agg [.lit (.string text)]))) :: r) W)
    (hg : Tryd.prog.globalNamed n = some g) (ht : (Tryd.prog.globals[g]?).map (·.type) = some 88) : ErrAt 205 g W := by
  obtain ⟨a0, s0, hv0, hc0, hs0, hz0⟩ := laid_sentinel h hg ht Tryd.underlying88 errRow Tryd.underlying205 Tryd.underlying223 rfl rfl Tryd.underlying9 (by kernel_rfl) (by kernel_rfl)
  exact ⟨a0, by have := World.var?_cell hg hv0 0; simpa using this⟩
end Go.Proofs.YthfpfakdchhodaaDoor
