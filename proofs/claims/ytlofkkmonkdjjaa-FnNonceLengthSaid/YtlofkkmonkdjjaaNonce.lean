/- FnNonceLength: for every n the law returns true: the program's longest nonce length for n bytes is the reference's. No condition. -/
import Derived.Test.YtlofkkmonkdjjaaRows
import Derived.WalkKit
import Derived.WalkLawsBesides
import Derived.ProofKit
import Derived.OpenShut
import Derived.Lib.Hide
namespace Go.Proofs.Ytlofkkmonkdjjaa.fnNonceLength
open Go.ChangeShapes Go.WideShapes Go.ChangeAt Go.RowKit
set_option linter.unusedVariables false

def ml (l : Nat) : Int := if l = 2 then 65535 else if l = 3 then 16777215 else if l = 4 then 4294967295 else if l = 5 then 1099511627775 else if l = 6 then 281474976710655 else if l = 7 then 72057594037927935 else 9223372036854775791

theorem maxlen_any (l : Nat) (h2 : 2 ≤ l) (h8 : l ≤ 8) (w : World) : Calls Try.prog 34 #[.int .u8 l, .int .i64 16] w fun e w' => e = .returned (.int .i64 (ml l)) ∧ w = w' := by
  obtain h | h | h | h | h | h | h : l = 2 ∨ l = 3 ∨ l = 4 ∨ l = 5 ∨ l = 6 ∨ l = 7 ∨ l = 8 := by omega
  all_goals
    subst h
    go_enter Try.func34, Try.ntmps34
    go_wp2
    go_ret
    exact ⟨rfl, rfl⟩

theorem max_any (n : Int) (k : Nat) (h2 : 2 ≤ k) (h8 : k ≤ 7) (hlo : ∀ j, 2 ≤ j → j < k → ml j < n) (hhi : n ≤ ml k) (w : World) : Calls Try.prog 22 #[.int .i64 n] w fun e w' => e = .returned (.int .i64 (15 - k)) ∧ w = w' := by
  go_enter Try.func22, Try.ntmps22
  go_wp2
  go_loop [3] (fun i => ∃ j : Nat, 2 ≤ j ∧ j ≤ k ∧ i = .int .i64 j) (fun i => k - (intOf i).toNat)
  case atStart => exact ⟨2, by omega, by omega, rfl⟩
  case round =>
    obtain ⟨j, hj2, hjk, rfl⟩ := hrel
    by_cases hlt : j < k
    · have hm := hlo j hj2 hlt
      have HM : ¬ (n ≤ ml j) := by omega
      clear hlo
      go_wp2_with (go_at_call 34; refine (maxlen_any _ (by omega) (by omega) _).mono ?_; rintro e w' ⟨rfl, rfl⟩)
      go_round
      case rel => exact ⟨j + 1, by omega, by omega, by go_num⟩
      case measure => simp [intOf]; omega
    · obtain rfl : j = k := by omega
      clear hlo
      go_wp2_with (go_at_call 34; refine (maxlen_any _ (by omega) (by omega) _).mono ?_; rintro e w' ⟨rfl, rfl⟩)
      go_ret
      exact ⟨rfl, rfl⟩

theorem spec_any (n : Int) (k : Nat) (h2 : 2 ≤ k) (h8 : k ≤ 7) (hlo : ∀ j, 2 ≤ j → j < k → ml j < n) (hhi : n ≤ ml k) (w : World) : Calls Try.prog 9 #[.int .i64 n] w fun e w' => e = .returned (.int .i64 (15 - k)) ∧ w = w' := by
  go_enter Try.func9, Try.ntmps9
  go_wp2
  go_loop [3] (fun i => ∃ j : Nat, 2 ≤ j ∧ j ≤ k ∧ i = .int .i64 j) (fun i => k - (intOf i).toNat)
  case atStart => exact ⟨2, by omega, by omega, rfl⟩
  case round =>
    obtain ⟨j, hj2, hjk, rfl⟩ := hrel
    by_cases hlt : j < k
    · have hm := hlo j hj2 hlt
      clear hlo
      obtain h | h | h | h | h : j = 2 ∨ j = 3 ∨ j = 4 ∨ j = 5 ∨ j = 6 := by omega
      all_goals
        subst h
        simp [ml] at hm
        go_wp2
        go_round
        case rel => first | exact ⟨3, by decide, by omega, rfl⟩ | exact ⟨4, by decide, by omega, rfl⟩ | exact ⟨5, by decide, by omega, rfl⟩ | exact ⟨6, by decide, by omega, rfl⟩ | exact ⟨7, by decide, by omega, rfl⟩
        case measure => simp [intOf]; omega
    · obtain rfl : j = k := by omega
      clear hlo
      obtain h | h | h | h | h | h : j = 2 ∨ j = 3 ∨ j = 4 ∨ j = 5 ∨ j = 6 ∨ j = 7:= by omega
      all_goals
        subst h
        simp [ml] at hhi
        go_wp2
        go_ret
        exact ⟨rfl, rfl⟩

theorem k_of (n : Int) (h : n ≤ 281474976710656) : ∃ k : Nat, 2 ≤ k ∧ k ≤ 7 ∧ (∀ j, 2 ≤ j → j < k → ml j < n) ∧ n ≤ ml k := by
  have e2 : ml 2 = 65535 := rfl
  have e3 : ml 3 = 16777215 := rfl
  have e4 : ml 4 = 4294967295 := rfl
  have e5 : ml 5 = 1099511627775 := rfl
  have e6 : ml 6 = 281474976710655 := rfl
  have e7 : ml 7 = 72057594037927935 := rfl
  by_cases h2 : n ≤ 65535
  · refine ⟨2, by omega, by omega, fun j a b => by omega, by omega⟩
  by_cases h3 : n ≤ 16777215
  · refine ⟨3, by omega, by omega, fun j a b => ?_, by omega⟩
    obtain rfl : j = 2 := by omega
    omega
  by_cases h4 : n ≤ 4294967295
  · refine ⟨4, by omega, by omega, fun j a b => ?_, by omega⟩
    obtain rfl | rfl : j = 2 ∨ j = 3 := by omega
    all_goals omega
  by_cases h5 : n ≤ 1099511627775
  · refine ⟨5, by omega, by omega, fun j a b => ?_, by omega⟩
    obtain rfl | rfl | rfl : j = 2 ∨ j = 3 ∨ j = 4 := by omega
    all_goals omega
  by_cases h6 : n ≤ 281474976710655
  · refine ⟨6, by omega, by omega, fun j a b => ?_, by omega⟩
    obtain rfl | rfl | rfl | rfl : j = 2 ∨ j = 3 ∨ j = 4 ∨ j = 5 := by omega
    all_goals omega
  · refine ⟨7, by omega, by omega, fun j a b => ?_, by omega⟩
    obtain rfl | rfl | rfl | rfl | rfl : j = 2 ∨ j = 3 ∨ j = 4 ∨ j = 5 ∨ j = 6 := by omega
    all_goals omega

theorem impl_any (n : Int) (k : Nat) (h2 : 2 ≤ k) (h8 : k ≤ 7) (hlo : ∀ j, 2 ≤ j → j < k → ml j < n) (hhi : n ≤ ml k) (w : World) : Calls Try.prog 8 #[.int .i64 n] w fun e w' => e = .returned (.int .i64 (15 - k)) ∧ w = w' := by
  have H := Lib.hid hlo
  clear hlo
  go_enter Try.func8, Try.ntmps8
  go_wp2_with (go_at_call 22; refine (max_any _ k h2 h8 H.out hhi _).mono ?_; rintro e w' ⟨rfl, rfl⟩)
  go_ret
  exact ⟨rfl, rfl⟩

theorem walk (a0 : Int) (w0 : (Lit.int .i64 a0).wf = true) (w : World) :
    Calls Try.prog 3 #[.int .i64 a0] w fun e w' => e = .returned (.bool true) ∧ Grown w w' := by
  by_cases hl : a0 < 0
  · go_enter Try.func3, Try.ntmps3
    go_wp2
    go_ret
    exact ⟨rfl, by repeat (first | exact Grown.refl _ | apply Grown.drew | apply Grown.alloc)⟩
  by_cases hh : 281474976710656 < a0
  · go_enter Try.func3, Try.ntmps3
    go_wp2
    go_ret
    exact ⟨rfl, by repeat (first | exact Grown.refl _ | apply Grown.drew | apply Grown.alloc)⟩
  obtain ⟨k, h2, h8, hlo, hhi⟩ := k_of a0 (by omega)
  have H := Lib.hid hlo
  clear hlo
  go_enter Try.func3, Try.ntmps3
  go_wp2_with (first | (go_at_call 8; refine (impl_any _ k h2 h8 H.out hhi _).mono ?_; rintro e w' ⟨rfl, rfl⟩) | (go_at_call 9; refine (spec_any _ k h2 h8 H.out hhi _).mono ?_; rintro e w' ⟨rfl, rfl⟩))
  go_ret
  exact ⟨rfl, by repeat (first | exact Grown.refl _ | apply Grown.drew | apply Grown.alloc)⟩

theorem own : ownKnob Try.prog.godebug = none := by kernel_rfl

/-! ### THE ROW's STEP: WRITTEN OUT: LEAVE IT -/
set_option maxRecDepth 100000 in
theorem lifted (os : Os) (started : os.Started) (H : Type) (enc : TypeId × Value → H) :
    ReturnsInHanded {} Try.checked os 3 .any (Rows.fnNonceLengthSpec.pre6 enc Try.prog Try.f3 Rows.fnNonceLengthRow.domain false) (Rows.fnNonceLengthSpec.post enc Try.prog Try.f3 false true false false) := by
  refine returnsInHanded_of_change (C := Try.checked) own started (by kernel_rfl) Try.func3
    (ChangeSpec.witness6 (enc := enc) (C := Try.checked) false ⟨#[], #[.int .i64 0], []⟩ 8 (by kernel_rfl) (by kernel_rfl) (by kernel_rfl) (by kernel_rfl)) ?_
  intro W base args ds gs before hval0 hW hcnd _
  have hval : ∀ (j : Nat) t v, Try.f3.params[j]? = some t → args[j]? = some v → Value.okWide Try.prog W .any base t v := hval0
  have hW' := hW
  obtain ⟨p, q, hA0, hV, rfl, hfz, hnd⟩ := hW
  have hA : DataW.TrodAll enc Try.prog W 0 (fun _ => true) true Try.f3.params.toList args.toList ds p := hA0
  rw [Try.params3] at hA hval
  obtain ⟨v0, vs0, d0, ds0, p0, q0, hargs, rfl, rfl, h0, r0⟩ := trodAll_cons hA
  obtain ⟨rfl, rfl, rfl⟩ := trodAll_nil r0
  obtain rfl : args = #[v0] := by cases args; simp_all
  obtain ⟨rfl, rfl⟩ := trodVars_none hV
  obtain ⟨a0, rfl, rfl, rfl, w0⟩ := open_int Try.underlying3 (hval 0 3 v0 rfl rfl) h0
  clear hA0 hval0
  simp only [List.append_nil] at hW'
  refine (walk a0 w0 W).mono fun e W' ⟨he, hg⟩ => ?_
  subst he
  exact ⟨_, rfl, post_of_same (pa := []) (pv := []) hW' (fun _ _ _ => (trodAll_cons_mk (shut_bool Try.underlying4 _) trodAll_mk0)) (fun sp _ => (trodAll_cons_mk (shut_int Try.underlying3 w0) trodAll_mk0)) (fun _ _ => rfl) rfl
    (hg.frame _) hg.2.1 (ok_one (by kernel_rfl) rfl (okWide_bool_mk Try.underlying4 _))⟩

theorem over : Rows.fnNonceLengthRow.holds Try.pinned (OpenSpec.ofChange Rows.fnNonceLengthSpec) :=
  OpenClaim.holds_of_wide 3 Try.f3 rfl rfl rfl rfl rfl rfl rfl ⟨rfl, rfl, rfl, rfl, rfl⟩ rfl rfl rfl rfl rfl (by kernel_rfl) Try.func3 (by kernel_rfl)
    (of_decide_eq_true (by kernel_rfl)) (by unfold Func.isWrapper; first | (rw [if_pos (by decide +kernel)]; kernel_rfl) | (rw [if_neg (by decide +kernel)]; exact ⟨rfl, rfl⟩))
    (fun os started H enc _ => lifted os started H enc)

/-- ████ THE STATEMENT ████ -/
theorem proved : Rows.FnNonceLengthSaid :=
  over
#print axioms proved
end Go.Proofs.Ytlofkkmonkdjjaa.fnNonceLength
