import Derived.Test.YthfpfakdchhodaaDoorList
import Derived.Deep.RegionHeld3
namespace Go.Proofs.YthfpfakdchhodaaDoor
open Go.ChangeShapes Go.WideShapes Go.ChangeAt Go.RowKit
set_option linter.unusedVariables false

theorem two_keep {n : Nat} {w W w2 : World} {a b : List Value} (h0 : Below n w W) (h1 : n + 1 < W.heap.size) (ha : ∀ i, W.cell? ⟨n, i, none⟩ = a[i]?) (hb' : ∀ i, W.cell? ⟨n + 1, i, none⟩ = b[i]?) (hb : Below W.heap.size W w2) :
    Below n w w2 ∧ n + 1 < w2.heap.size ∧ (∀ i, w2.cell? ⟨n, i, none⟩ = a[i]?) ∧ (∀ i, w2.cell? ⟨n + 1, i, none⟩ = b[i]?) :=
  ⟨h0.trans (hb.mono (by omega)), by have := hb.size; omega, fun i => (hb.cell (p := ⟨n, i, none⟩) (by show n < _; omega)).trans (ha i), fun i => (hb.cell (p := ⟨n + 1, i, none⟩) h1).trans (hb' i)⟩

/-- 'list' says that these two are the same, wherever it is asked. -/
def SameL (k : Nat) (F u v : Value) (w : World) : Prop := ∀ w1, Below w.heap.size w w1 → Calls Tryd.prog k #[u, v, F] w1 fun e w2 => e = .returned (.bool true) ∧ Below w1.heap.size w1 w2
theorem same_nil_str (A A' : Option Addr) (c c' : Nat) (F : Value) (w : World) : SameL 54 F (.slice A 0 c) (.slice A' 0 c') w := fun w1 _ =>
  (list_nil_str A A' c c' F w1).mono fun e w2 h => by obtain ⟨rfl, rfl⟩ := h; exact ⟨rfl, Below.refl _ _⟩
theorem same_nil_u16 (A A' : Option Addr) (c c' : Nat) (F : Value) (w : World) : SameL 56 F (.slice A 0 c) (.slice A' 0 c') w := fun w1 _ =>
  (list_nil_u16 A A' c c' F w1).mono fun e w2 h => by obtain ⟨rfl, rfl⟩ := h; exact ⟨rfl, Below.refl _ _⟩
theorem same_nil_u8 (A A' : Option Addr) (c c' : Nat) (F : Value) (w : World) : SameL 75 F (.slice A 0 c) (.slice A' 0 c') w := fun w1 _ =>
  (list_nil_u8 A A' c c' F w1).mono fun e w2 h => by obtain ⟨rfl, rfl⟩ := h; exact ⟨rfl, Below.refl _ _⟩
theorem same_nil_pair (A A' : Option Addr) (c c' : Nat) (F : Value) (w : World) : SameL 58 F (.slice A 0 c) (.slice A' 0 c') w := fun w1 _ =>
  (list_nil_pair A A' c c' F w1).mono fun e w2 h => by obtain ⟨rfl, rfl⟩ := h; exact ⟨rfl, Below.refl _ _⟩
theorem same_nil_share (A A' : Option Addr) (c c' : Nat) (F : Value) (w : World) : SameL 60 F (.slice A 0 c) (.slice A' 0 c') w := fun w1 _ =>
  (list_nil_share A A' c c' F w1).mono fun e w2 h => by obtain ⟨rfl, rfl⟩ := h; exact ⟨rfl, Below.refl _ _⟩
theorem same_nil_ident (A A' : Option Addr) (c c' : Nat) (F : Value) (w : World) : SameL 62 F (.slice A 0 c) (.slice A' 0 c') w := fun w1 _ =>
  (list_nil_ident A A' c c' F w1).mono fun e w2 h => by obtain ⟨rfl, rfl⟩ := h; exact ⟨rfl, Below.refl _ _⟩
theorem same_nil_filter (A A' : Option Addr) (c c' : Nat) (F : Value) (w : World) : SameL 64 F (.slice A 0 c) (.slice A' 0 c') w := fun w1 _ =>
  (list_nil_filter A A' c c' F w1).mono fun e w2 h => by obtain ⟨rfl, rfl⟩ := h; exact ⟨rfl, Below.refl _ _⟩
/-- An extension as a value. -/
abbrev extRow (t : Int) (s : ByteArray) (L N P : Value) (f : Bool) (n : Int) (h : Bool) (X V G I R : Value) : List Value := [.int .u16 t, .string s, L, N, P, .bool f, .int .u32 n, .bool h, X, V, G, I, R]
set_option maxRecDepth 100000 in
set_option maxHeartbeats 4000000 in
theorem sameExt_of (t : Int) (f h : Bool) (n : Int) (s : ByteArray) (L N P X V G I R L' N' P' X' V' G' I' R' : Value) (w : World)
    (hL : SameL 54 (.func (.func 55) #[] #[]) L L' w) (hN : SameL 56 (.func (.func 57) #[] #[]) N N' w) (hP : SameL 58 (.func (.func 59) #[] #[]) P P' w) (hX : SameL 60 (.func (.func 61) #[] #[]) X X' w) (hV : SameL 60 (.func (.func 61) #[] #[]) V V' w) (hG : SameL 56 (.func (.func 57) #[] #[]) G G' w) (hI : SameL 62 (.func (.func 63) #[] #[]) I I' w) (hR : SameL 64 (.func (.func 65) #[] #[]) R R' w) :
    Calls Tryd.prog 26 #[.agg (extRow t s L N P f n h X V G I R).toArray, .agg (extRow t s L' N' P' f n h X' V' G' I' R').toArray] w fun e w' => e = .returned (.bool true) ∧ Below w.heap.size w w' := by
  have HL := hide hL
  have HN := hide hN
  have HP := hide hP
  have HX := hide hX
  have HV := hide hV
  have HG := hide hG
  have HI := hide hI
  have HR := hide hR
  clear hL hN hP hX hV hG hI hR
  obtain ⟨kb, ks, ka, kc⟩ := two_keep (a := extRow t s L N P f n h X V G I R) (b := extRow t s L' N' P' f n h X' V' G' I' R') (((Below.refl _ w).alloc (Nat.le_refl _) (.cells (extRow t s L N P f n h X V G I R).toArray 40)).alloc (by simp) (.cells (extRow t s L' N' P' f n h X' V' G' I' R').toArray 40)) (by simp) (fun i => (((Blk.new w _ _).alloc _).cell i)) (fun i => (Blk.new_at (w.heap.size + 1) (by simp) _ _).cell i) (Below.refl _ _)
  have KB := Lib.hid kb
  have KS := Lib.hid ks
  have KA := Lib.hid ka
  have KC := Lib.hid kc
  clear kb ks ka kc
  go_enter Tryd.func26, Tryd.ntmps26
  go_wp2_with fail
  refine (HL.out _ KB.out).mono ?_
  rintro e wL ⟨rfl, hb⟩
  obtain ⟨kb, ks, ka, kc⟩ := two_keep KB.out KS.out KA.out KC.out hb
  clear KB KS KA KC hb
  have KB := Lib.hid kb
  have KS := Lib.hid ks
  have KA := Lib.hid ka
  have KC := Lib.hid kc
  clear kb ks
  go_wp2_with fail
  clear ka kc
  refine (HN.out _ KB.out).mono ?_
  rintro e wN ⟨rfl, hb⟩
  obtain ⟨kb, ks, ka, kc⟩ := two_keep KB.out KS.out KA.out KC.out hb
  clear KB KS KA KC hb
  have KB := Lib.hid kb
  have KS := Lib.hid ks
  have KA := Lib.hid ka
  have KC := Lib.hid kc
  clear kb ks
  go_wp2_with fail
  clear ka kc
  refine (HP.out _ KB.out).mono ?_
  rintro e wP ⟨rfl, hb⟩
  obtain ⟨kb, ks, ka, kc⟩ := two_keep KB.out KS.out KA.out KC.out hb
  clear KB KS KA KC hb
  have KB := Lib.hid kb
  have KS := Lib.hid ks
  have KA := Lib.hid ka
  have KC := Lib.hid kc
  clear kb ks
  go_wp2_with fail
  clear ka kc
  refine (HX.out _ KB.out).mono ?_
  rintro e wX ⟨rfl, hb⟩
  obtain ⟨kb, ks, ka, kc⟩ := two_keep KB.out KS.out KA.out KC.out hb
  clear KB KS KA KC hb
  have KB := Lib.hid kb
  have KS := Lib.hid ks
  have KA := Lib.hid ka
  have KC := Lib.hid kc
  clear kb ks
  go_wp2_with fail
  clear ka kc
  refine (HV.out _ KB.out).mono ?_
  rintro e wV ⟨rfl, hb⟩
  obtain ⟨kb, ks, ka, kc⟩ := two_keep KB.out KS.out KA.out KC.out hb
  clear KB KS KA KC hb
  have KB := Lib.hid kb
  have KS := Lib.hid ks
  have KA := Lib.hid ka
  have KC := Lib.hid kc
  clear kb ks
  go_wp2_with fail
  clear ka kc
  refine (HG.out _ KB.out).mono ?_
  rintro e wG ⟨rfl, hb⟩
  obtain ⟨kb, ks, ka, kc⟩ := two_keep KB.out KS.out KA.out KC.out hb
  clear KB KS KA KC hb
  have KB := Lib.hid kb
  have KS := Lib.hid ks
  have KA := Lib.hid ka
  have KC := Lib.hid kc
  clear kb ks
  go_wp2_with fail
  clear ka kc
  refine (HI.out _ KB.out).mono ?_
  rintro e wI ⟨rfl, hb⟩
  obtain ⟨kb, ks, ka, kc⟩ := two_keep KB.out KS.out KA.out KC.out hb
  clear KB KS KA KC hb
  have KB := Lib.hid kb
  have KS := Lib.hid ks
  have KA := Lib.hid ka
  have KC := Lib.hid kc
  clear kb ks
  go_wp2_with fail
  clear ka kc
  refine (HR.out _ KB.out).mono ?_
  rintro e wR ⟨rfl, hb⟩
  obtain ⟨kb, ks, ka, kc⟩ := two_keep KB.out KS.out KA.out KC.out hb
  clear KB KS KA KC hb
  have KB := Lib.hid kb
  have KS := Lib.hid ks
  have KA := Lib.hid ka
  have KC := Lib.hid kc
  clear kb ks
  go_wp2_with fail
  clear ka kc
  go_ret
  exact ⟨rfl, KB.out⟩
end Go.Proofs.YthfpfakdchhodaaDoor
