/- Two lists of the same items, compared. -/
import Derived.Test.YthfpfakdchhodaaDoorSame
import Derived.StillTailTactics
import Derived.Deep.RegionHeld3
import Derived.Deep.RegionWith
namespace Go.Proofs.YthfpfakdchhodaaDoor
open Go.ChangeShapes Go.WideShapes Go.ChangeAt Go.RowKit
set_option linter.unusedVariables false
theorem equal_u16 (x : Int) (w : World) : Calls Tryd.prog 57 #[.int .u16 x, .int .u16 x] w fun e w' => e = .returned (.bool true) ∧ w = w' := by
  go_enter Tryd.func57, Tryd.ntmps57
  go_wp2
  go_ret
  exact ⟨by simp, rfl⟩
set_option maxRecDepth 100000 in
theorem list_same_u16 (A A' : Option Addr) (c c' : Nat) (l : List Int) (w : World) (hn : l.length ≤ 2147483647) (hs : Sl w A (l.map (Value.int .u16))) (hs' : Sl w A' (l.map (Value.int .u16))) :
    Calls Tryd.prog 56 #[.slice A l.length c, .slice A' l.length c', .func (.func 57) #[] #[]] w fun e w' => e = .returned (.bool true) ∧ Below w.heap.size w w' := by
  have HS := hide hs
  have HS' := hide hs'
  clear hs hs'
  go_enter Tryd.func56, Tryd.ntmps56
  go_wp2
  go_loopw [15] (fun i wr => ∃ k : Nat, k ≤ l.length ∧ i = .int .i64 k ∧ Below w.heap.size w wr) (fun i _ => l.length - (intOf i).toNat)
  case atStart => exact ⟨0, by omega, rfl, Below.refl _ _⟩
  case round =>
    obtain ⟨k, hk, rfl, hb⟩ := hrel
    have HB := Lib.hid hb
    clear hb
    by_cases hlt : k < l.length
    · obtain ⟨x, hx⟩ : ∃ x, l[k]? = some x := ⟨_, List.getElem?_eq_getElem hlt⟩
      obtain ⟨b, off, rfl, hc⟩ := (HS.out.below HB.out) k (.int .u16 x) (by rw [List.getElem?_map, hx]; rfl)
      obtain ⟨b', off', rfl, hc'⟩ := (HS'.out.below HB.out) k (.int .u16 x) (by rw [List.getElem?_map, hx]; rfl)
      have hki : (k : Int) < (l.length : Int) := by omega
      clear hx
      go_wp2
      go_region_held3 (fun w' => w'.cell? ⟨b, off + k, none⟩ = some (.int .u16 x) ∧ w'.cell? ⟨b', off' + k, none⟩ = some (.int .u16 x)) (first | exact ⟨hc, hc'⟩ | go_keep) (first | (go_at_call 57; refine (equal_u16 x _).mono ?_; rintro e w' ⟨rfl, rfl⟩))
      go_wp2
      go_roundw
      case rel => exact ⟨k + 1, by omega, by go_num, HB.out.drew⟩
      case measure => simp [intOf]; omega
    · obtain rfl : k = l.length := by omega
      go_wp2
      go_ret
      exact ⟨rfl, HB.out⟩
theorem same_u16 (A A' : Option Addr) (n n' c c' : Nat) (l : List Int) (w : World) (hl : n = l.length) (hl' : n' = l.length) (hn : l.length ≤ 2147483647) (hs : Sl w A (l.map (Value.int .u16))) (hs' : Sl w A' (l.map (Value.int .u16))) :
    SameL 56 (.func (.func 57) #[] #[]) (.slice A n c) (.slice A' n' c') w := by
  subst hl hl'
  exact fun w1 hb => list_same_u16 A A' c c' l w1 hn (hs.below hb) (hs'.below hb)
theorem equal_str (x : ByteArray) (w : World) : Calls Tryd.prog 55 #[.string x, .string x] w fun e w' => e = .returned (.bool true) ∧ w = w' := by
  go_enter Tryd.func55, Tryd.ntmps55
  go_wp2
  go_ret
  exact ⟨by simp, rfl⟩
set_option maxRecDepth 100000 in
theorem list_same_str (A A' : Option Addr) (c c' : Nat) (l : List ByteArray) (w : World) (hn : l.length ≤ 2147483647) (hs : Sl w A (l.map Value.string)) (hs' : Sl w A' (l.map Value.string)) :
    Calls Tryd.prog 54 #[.slice A l.length c, .slice A' l.length c', .func (.func 55) #[] #[]] w fun e w' => e = .returned (.bool true) ∧ Below w.heap.size w w' := by
  have HS := hide hs
  have HS' := hide hs'
  clear hs hs'
  go_enter Tryd.func54, Tryd.ntmps54
  go_wp2
  go_loopw [15] (fun i wr => ∃ k : Nat, k ≤ l.length ∧ i = .int .i64 k ∧ Below w.heap.size w wr) (fun i _ => l.length - (intOf i).toNat)
  case atStart => exact ⟨0, by omega, rfl, Below.refl _ _⟩
  case round =>
    obtain ⟨k, hk, rfl, hb⟩ := hrel
    have HB := Lib.hid hb
    clear hb
    by_cases hlt : k < l.length
    · obtain ⟨x, hx⟩ : ∃ x, l[k]? = some x := ⟨_, List.getElem?_eq_getElem hlt⟩
      obtain ⟨b, off, rfl, hc⟩ := (HS.out.below HB.out) k (.string x) (by rw [List.getElem?_map, hx]; rfl)
      obtain ⟨b', off', rfl, hc'⟩ := (HS'.out.below HB.out) k (.string x) (by rw [List.getElem?_map, hx]; rfl)
      have hki : (k : Int) < (l.length : Int) := by omega
      clear hx
      go_wp2
      go_region_held3 (fun w' => w'.cell? ⟨b, off + k, none⟩ = some (.string x) ∧ w'.cell? ⟨b', off' + k, none⟩ = some (.string x)) (first | exact ⟨hc, hc'⟩ | go_keep) (first | (go_at_call 55; refine (equal_str x _).mono ?_; rintro e w' ⟨rfl, rfl⟩))
      go_wp2
      go_roundw
      case rel => exact ⟨k + 1, by omega, by go_num, HB.out.drew⟩
      case measure => simp [intOf]; omega
    · obtain rfl : k = l.length := by omega
      go_wp2
      go_ret
      exact ⟨rfl, HB.out⟩
theorem same_str (A A' : Option Addr) (n n' c c' : Nat) (l : List ByteArray) (w : World) (hl : n = l.length) (hl' : n' = l.length) (hn : l.length ≤ 2147483647) (hs : Sl w A (l.map Value.string)) (hs' : Sl w A' (l.map Value.string)) :
    SameL 54 (.func (.func 55) #[] #[]) (.slice A n c) (.slice A' n' c') w := by
  subst hl hl'
  exact fun w1 hb => list_same_str A A' c c' l w1 hn (hs.below hb) (hs'.below hb)
end Go.Proofs.YthfpfakdchhodaaDoor
