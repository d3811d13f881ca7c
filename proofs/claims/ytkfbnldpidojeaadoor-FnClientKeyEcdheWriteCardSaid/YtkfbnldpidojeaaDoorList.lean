/- The lists that two plain data hold, compared: what 'list' answers for no items, and for items of one cell. -/
import Derived.Test.YtkfbnldpidojeaaDoorBin
namespace Go.Proofs.YtkfbnldpidojeaaDoor
open Go.ChangeShapes Go.WideShapes Go.ChangeAt Go.RowKit
set_option linter.unusedVariables false

theorem list_nil_str (A A' : Option Addr) (c c' : Nat) (F : Value) (w : World) :
    Calls Tryd.prog 59 #[.slice A 0 c, .slice A' 0 c', F] w fun e w' => e = .returned (.bool true) ∧ w = w' := by
  go_enter Tryd.func59, Tryd.ntmps59
  go_wp2
  go_loop [15] (fun i => i = .int .i64 0) (fun _ => 0)
  case atStart => rfl
  case round =>
    subst hrel
    go_wp2
    go_ret
    exact ⟨rfl, rfl⟩

theorem list_nil_u16 (A A' : Option Addr) (c c' : Nat) (F : Value) (w : World) :
    Calls Tryd.prog 61 #[.slice A 0 c, .slice A' 0 c', F] w fun e w' => e = .returned (.bool true) ∧ w = w' := by
  go_enter Tryd.func61, Tryd.ntmps61
  go_wp2
  go_loop [15] (fun i => i = .int .i64 0) (fun _ => 0)
  case atStart => rfl
  case round =>
    subst hrel
    go_wp2
    go_ret
    exact ⟨rfl, rfl⟩


theorem list_nil_pair (A A' : Option Addr) (c c' : Nat) (F : Value) (w : World) :
    Calls Tryd.prog 63 #[.slice A 0 c, .slice A' 0 c', F] w fun e w' => e = .returned (.bool true) ∧ w = w' := by
  go_enter Tryd.func63, Tryd.ntmps63
  go_wp2
  go_loop [15] (fun i => i = .int .i64 0) (fun _ => 0)
  case atStart => rfl
  case round =>
    subst hrel
    go_wp2
    go_ret
    exact ⟨rfl, rfl⟩

theorem list_nil_share (A A' : Option Addr) (c c' : Nat) (F : Value) (w : World) :
    Calls Tryd.prog 65 #[.slice A 0 c, .slice A' 0 c', F] w fun e w' => e = .returned (.bool true) ∧ w = w' := by
  go_enter Tryd.func65, Tryd.ntmps65
  go_wp2
  go_loop [15] (fun i => i = .int .i64 0) (fun _ => 0)
  case atStart => rfl
  case round =>
    subst hrel
    go_wp2
    go_ret
    exact ⟨rfl, rfl⟩

theorem list_nil_ident (A A' : Option Addr) (c c' : Nat) (F : Value) (w : World) :
    Calls Tryd.prog 67 #[.slice A 0 c, .slice A' 0 c', F] w fun e w' => e = .returned (.bool true) ∧ w = w' := by
  go_enter Tryd.func67, Tryd.ntmps67
  go_wp2
  go_loop [15] (fun i => i = .int .i64 0) (fun _ => 0)
  case atStart => rfl
  case round =>
    subst hrel
    go_wp2
    go_ret
    exact ⟨rfl, rfl⟩

theorem list_nil_filter (A A' : Option Addr) (c c' : Nat) (F : Value) (w : World) :
    Calls Tryd.prog 69 #[.slice A 0 c, .slice A' 0 c', F] w fun e w' => e = .returned (.bool true) ∧ w = w' := by
  go_enter Tryd.func69, Tryd.ntmps69
  go_wp2
  go_loop [15] (fun i => i = .int .i64 0) (fun _ => 0)
  case atStart => rfl
  case round =>
    subst hrel
    go_wp2
    go_ret
    exact ⟨rfl, rfl⟩



end Go.Proofs.YtkfbnldpidojeaaDoor
