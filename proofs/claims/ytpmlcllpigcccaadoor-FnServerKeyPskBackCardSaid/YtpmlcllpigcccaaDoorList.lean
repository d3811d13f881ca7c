/- The lists that two plain data hold, compared: what 'list' answers for no items, and for items of one cell. -/
import Derived.Test.YtpmlcllpigcccaaDoorBin
namespace Go.Proofs.YtpmlcllpigcccaaDoor
open Go.ChangeShapes Go.WideShapes Go.ChangeAt Go.RowKit
set_option linter.unusedVariables false

theorem list_nil_str (A A' : Option Addr) (c c' : Nat) (F : Value) (w : World) :
    Calls Tryd.prog 74 #[.slice A 0 c, .slice A' 0 c', F] w fun e w' => e = .returned (.bool true) ∧ w = w' := by
  go_enter Tryd.func74, Tryd.ntmps74
  go_wp2
  go_loop [15] (fun i => i = .int .i64 0) (fun _ => 0)
  case atStart => rfl
  case round =>
    subst hrel
    go_wp2
    go_ret
    exact ⟨rfl, rfl⟩

theorem list_nil_u16 (A A' : Option Addr) (c c' : Nat) (F : Value) (w : World) :
    Calls Tryd.prog 69 #[.slice A 0 c, .slice A' 0 c', F] w fun e w' => e = .returned (.bool true) ∧ w = w' := by
  go_enter Tryd.func69, Tryd.ntmps69
  go_wp2
  go_loop [15] (fun i => i = .int .i64 0) (fun _ => 0)
  case atStart => rfl
  case round =>
    subst hrel
    go_wp2
    go_ret
    exact ⟨rfl, rfl⟩

theorem list_nil_u8 (A A' : Option Addr) (c c' : Nat) (F : Value) (w : World) :
    Calls Tryd.prog 71 #[.slice A 0 c, .slice A' 0 c', F] w fun e w' => e = .returned (.bool true) ∧ w = w' := by
  go_enter Tryd.func71, Tryd.ntmps71
  go_wp2
  go_loop [15] (fun i => i = .int .i64 0) (fun _ => 0)
  case atStart => rfl
  case round =>
    subst hrel
    go_wp2
    go_ret
    exact ⟨rfl, rfl⟩

theorem list_nil_pair (A A' : Option Addr) (c c' : Nat) (F : Value) (w : World) :
    Calls Tryd.prog 30 #[.slice A 0 c, .slice A' 0 c', F] w fun e w' => e = .returned (.bool true) ∧ w = w' := by
  go_enter Tryd.func30, Tryd.ntmps30
  go_wp2
  go_loop [15] (fun i => i = .int .i64 0) (fun _ => 0)
  case atStart => rfl
  case round =>
    subst hrel
    go_wp2
    go_ret
    exact ⟨rfl, rfl⟩

theorem list_nil_share (A A' : Option Addr) (c c' : Nat) (F : Value) (w : World) :
    Calls Tryd.prog 129 #[.slice A 0 c, .slice A' 0 c', F] w fun e w' => e = .returned (.bool true) ∧ w = w' := by
  go_enter Tryd.func129, Tryd.ntmps129
  go_wp2
  go_loop [15] (fun i => i = .int .i64 0) (fun _ => 0)
  case atStart => rfl
  case round =>
    subst hrel
    go_wp2
    go_ret
    exact ⟨rfl, rfl⟩

theorem list_nil_ident (A A' : Option Addr) (c c' : Nat) (F : Value) (w : World) :
    Calls Tryd.prog 131 #[.slice A 0 c, .slice A' 0 c', F] w fun e w' => e = .returned (.bool true) ∧ w = w' := by
  go_enter Tryd.func131, Tryd.ntmps131
  go_wp2
  go_loop [15] (fun i => i = .int .i64 0) (fun _ => 0)
  case atStart => rfl
  case round =>
    subst hrel
    go_wp2
    go_ret
    exact ⟨rfl, rfl⟩

theorem list_nil_filter (A A' : Option Addr) (c c' : Nat) (F : Value) (w : World) :
    Calls Tryd.prog 133 #[.slice A 0 c, .slice A' 0 c', F] w fun e w' => e = .returned (.bool true) ∧ w = w' := by
  go_enter Tryd.func133, Tryd.ntmps133
  go_wp2
  go_loop [15] (fun i => i = .int .i64 0) (fun _ => 0)
  case atStart => rfl
  case round =>
    subst hrel
    go_wp2
    go_ret
    exact ⟨rfl, rfl⟩

theorem list_nil_entry (A A' : Option Addr) (c c' : Nat) (F : Value) (w : World) :
    Calls Tryd.prog 76 #[.slice A 0 c, .slice A' 0 c', F] w fun e w' => e = .returned (.bool true) ∧ w = w' := by
  go_enter Tryd.func76, Tryd.ntmps76
  go_wp2
  go_loop [15] (fun i => i = .int .i64 0) (fun _ => 0)
  case atStart => rfl
  case round =>
    subst hrel
    go_wp2
    go_ret
    exact ⟨rfl, rfl⟩

theorem list_nil_ext (A A' : Option Addr) (c c' : Nat) (F : Value) (w : World) :
    Calls Tryd.prog 101 #[.slice A 0 c, .slice A' 0 c', F] w fun e w' => e = .returned (.bool true) ∧ w = w' := by
  go_enter Tryd.func101, Tryd.ntmps101
  go_wp2
  go_loop [15] (fun i => i = .int .i64 0) (fun _ => 0)
  case atStart => rfl
  case round =>
    subst hrel
    go_wp2
    go_ret
    exact ⟨rfl, rfl⟩

end Go.Proofs.YtpmlcllpigcccaaDoor
