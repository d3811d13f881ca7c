/- The lists that two plain data hold, compared: what 'list' answers for no items, and for items of one cell. -/
import Derived.Test.YthfpfakdchhodaaDoorBin
namespace Go.Proofs.YthfpfakdchhodaaDoor
open Go.ChangeShapes Go.WideShapes Go.ChangeAt Go.RowKit
set_option linter.unusedVariables false

theorem list_nil_str (A A' : Option Addr) (c c' : Nat) (F : Value) (w : World) :
    Calls Tryd.prog 54 #[.slice A 0 c, .slice A' 0 c', F] w fun e w' => e = .returned (.bool true) ∧ w = w' := by
  go_enter Tryd.func54, Tryd.ntmps54
  go_wp2
  go_loop [15] (fun i => i = .int .i64 0) (fun _ => 0)
  case atStart => rfl
  case round =>
    subst hrel
    go_wp2
    go_ret
    exact ⟨rfl, rfl⟩

theorem list_nil_u16 (A A' : Option Addr) (c c' : Nat) (F : Value) (w : World) :
    Calls Tryd.prog 56 #[.slice A 0 c, .slice A' 0 c', F] w fun e w' => e = .returned (.bool true) ∧ w = w' := by
  go_enter Tryd.func56, Tryd.ntmps56
  go_wp2
  go_loop [15] (fun i => i = .int .i64 0) (fun _ => 0)
  case atStart => rfl
  case round =>
    subst hrel
    go_wp2
    go_ret
    exact ⟨rfl, rfl⟩

theorem list_nil_u8 (A A' : Option Addr) (c c' : Nat) (F : Value) (w : World) :
    Calls Tryd.prog 75 #[.slice A 0 c, .slice A' 0 c', F] w fun e w' => e = .returned (.bool true) ∧ w = w' := by
  go_enter Tryd.func75, Tryd.ntmps75
  go_wp2
  go_loop [15] (fun i => i = .int .i64 0) (fun _ => 0)
  case atStart => rfl
  case round =>
    subst hrel
    go_wp2
    go_ret
    exact ⟨rfl, rfl⟩

theorem list_nil_pair (A A' : Option Addr) (c c' : Nat) (F : Value) (w : World) :
    Calls Tryd.prog 58 #[.slice A 0 c, .slice A' 0 c', F] w fun e w' => e = .returned (.bool true) ∧ w = w' := by
  go_enter Tryd.func58, Tryd.ntmps58
  go_wp2
  go_loop [15] (fun i => i = .int .i64 0) (fun _ => 0)
  case atStart => rfl
  case round =>
    subst hrel
    go_wp2
    go_ret
    exact ⟨rfl, rfl⟩

theorem list_nil_share (A A' : Option Addr) (c c' : Nat) (F : Value) (w : World) :
    Calls Tryd.prog 60 #[.slice A 0 c, .slice A' 0 c', F] w fun e w' => e = .returned (.bool true) ∧ w = w' := by
  go_enter Tryd.func60, Tryd.ntmps60
  go_wp2
  go_loop [15] (fun i => i = .int .i64 0) (fun _ => 0)
  case atStart => rfl
  case round =>
    subst hrel
    go_wp2
    go_ret
    exact ⟨rfl, rfl⟩

theorem list_nil_ident (A A' : Option Addr) (c c' : Nat) (F : Value) (w : World) :
    Calls Tryd.prog 62 #[.slice A 0 c, .slice A' 0 c', F] w fun e w' => e = .returned (.bool true) ∧ w = w' := by
  go_enter Tryd.func62, Tryd.ntmps62
  go_wp2
  go_loop [15] (fun i => i = .int .i64 0) (fun _ => 0)
  case atStart => rfl
  case round =>
    subst hrel
    go_wp2
    go_ret
    exact ⟨rfl, rfl⟩

theorem list_nil_filter (A A' : Option Addr) (c c' : Nat) (F : Value) (w : World) :
    Calls Tryd.prog 64 #[.slice A 0 c, .slice A' 0 c', F] w fun e w' => e = .returned (.bool true) ∧ w = w' := by
  go_enter Tryd.func64, Tryd.ntmps64
  go_wp2
  go_loop [15] (fun i => i = .int .i64 0) (fun _ => 0)
  case atStart => rfl
  case round =>
    subst hrel
    go_wp2
    go_ret
    exact ⟨rfl, rfl⟩

theorem list_nil_entry (A A' : Option Addr) (c c' : Nat) (F : Value) (w : World) :
    Calls Tryd.prog 78 #[.slice A 0 c, .slice A' 0 c', F] w fun e w' => e = .returned (.bool true) ∧ w = w' := by
  go_enter Tryd.func78, Tryd.ntmps78
  go_wp2
  go_loop [15] (fun i => i = .int .i64 0) (fun _ => 0)
  case atStart => rfl
  case round =>
    subst hrel
    go_wp2
    go_ret
    exact ⟨rfl, rfl⟩

theorem list_nil_ext (A A' : Option Addr) (c c' : Nat) (F : Value) (w : World) :
    Calls Tryd.prog 107 #[.slice A 0 c, .slice A' 0 c', F] w fun e w' => e = .returned (.bool true) ∧ w = w' := by
  go_enter Tryd.func107, Tryd.ntmps107
  go_wp2
  go_loop [15] (fun i => i = .int .i64 0) (fun _ => 0)
  case atStart => rfl
  case round =>
    subst hrel
    go_wp2
    go_ret
    exact ⟨rfl, rfl⟩

end Go.Proofs.YthfpfakdchhodaaDoor
