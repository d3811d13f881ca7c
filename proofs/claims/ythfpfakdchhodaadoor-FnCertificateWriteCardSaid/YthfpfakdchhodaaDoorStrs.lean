/- Lists of strings: the contracts of 'zzFits3', 'between' and 'texts'. -/
import Derived.Test.YthfpfakdchhodaaDoorWords
namespace Go.Proofs.YthfpfakdchhodaaDoor
open Go.ChangeShapes Go.WideShapes Go.ChangeAt Go.RowKit
set_option linter.unusedVariables false

/-- A list of strings as values. -/
def strs (L : List (List UInt8)) : List Value := L.map fun x => .string (S x)
theorem strs_length (L : List (List UInt8)) : (strs L).length = L.length := by simp [strs]
theorem strs_get (L : List (List UInt8)) (k : Nat) (x : List UInt8) (h : L[k]? = some x) : (strs L)[k]? = some (.string (S x)) := by simp [strs, h]
theorem ex_strs (l : List ByteArray) : ∃ L : List (List UInt8), l = L.map S := ⟨l.map (·.data.toList), by simp [Function.comp_def, S_of]⟩
/-- how many bytes, and so many more for each -/
def weight (d : Nat) (L : List (List UInt8)) : Nat := (L.map fun x => x.length + d).sum
theorem weight_succ (d : Nat) (L : List (List UInt8)) (k : Nat) (x : List UInt8) (h : L[k]? = some x) : weight d (L.take (k + 1)) = weight d (L.take k) + (x.length + d) := by
  have hk := (List.getElem?_eq_some_iff.1 h).1
  have he : L[k] = x := by rw [List.getElem?_eq_getElem hk] at h; simpa using h
  rw [List.take_succ_eq_append_getElem hk, he]
  simp [weight]
theorem weight_take (d : Nat) (L : List (List UInt8)) (k : Nat) : weight d (L.take k) ≤ weight d L := by
  have h := congrArg (weight d) (List.take_append_drop k L)
  have ha : weight d (L.take k ++ L.drop k) = weight d (L.take k) + weight d (L.drop k) := by simp only [weight, List.map_append, List.sum_append]
  omega
theorem weight_mem (d : Nat) (L : List (List UInt8)) (x : List UInt8) (h : x ∈ L) : x.length + d ≤ weight d L := by
  obtain ⟨k, hk, e⟩ := List.mem_iff_getElem.1 h
  have h1 := weight_succ d L k x (by rw [List.getElem?_eq_getElem hk, e])
  have h2 := weight_take d L (k + 1)
  omega
def textsL (b : Nat) (L : List (List UInt8)) : List UInt8 := L.flatMap fun x => vecL x b
theorem textsL_length (b : Nat) (L : List (List UInt8)) : (textsL b L).length = weight b L := by
  induction L with
  | nil => rfl
  | cons x L ih => simp only [textsL, weight, List.flatMap_cons, List.length_append, vecL_length, List.map_cons, List.sum_cons] at ih ⊢; omega

/-- What 'zzFits3' answers. -/
def FitsPost (L : List (List UInt8)) (w : World) (e : Ending) (w' : World) : Prop := ∃ b, e = .returned (.bool b) ∧ (b = true → L.length ≤ 2147483647 ∧ ∀ x ∈ L, x.length ≤ 2147483647) ∧ Below w.heap.size w w'
/-- What 'between' answers. -/
def BetweenPost (least most : Nat) (L : List (List UInt8)) (w : World) (e : Ending) (w' : World) : Prop := ∃ b, e = .returned (.bool b) ∧ (b = true → 0 < L.length ∧ weight 3 L ≤ 60000 ∧ ∀ x ∈ L, least ≤ x.length ∧ x.length ≤ most) ∧ Below w.heap.size w w'
set_option maxRecDepth 100000 in
theorem fits_any (A : Option Addr) (c : Nat) (L : List (List UInt8)) (w : World) (hs : Sl w A (strs L)) :
    Calls Tryd.prog 21 #[.slice A L.length c] w (FitsPost L w) := by
  have hS := S_size
  have HS := hide hs
  clear hs
  by_cases hz : 2147483647 < (L.length : Int)
  · go_enter Tryd.func21, Tryd.ntmps21
    go_wp2
    go_ret
    exact ⟨false, rfl, (fun e => by cases e), Below.refl _ _⟩
  go_enter Tryd.func21, Tryd.ntmps21
  go_wp2
  go_loopw [4, 10] (fun _ i wr => ∃ k : Nat, k ≤ L.length ∧ i = .int .i64 k ∧ (∀ x ∈ L.take k, x.length ≤ 2147483647) ∧ Below w.heap.size w wr) (fun _ i _ => L.length - (intOf i).toNat)
  case atStart => exact ⟨0, by omega, rfl, by simp, Below.refl _ _⟩
  case round =>
    obtain ⟨k, hk, rfl, hall, hb⟩ := hrel
    have HB := Lib.hid hb
    have HA := Lib.hid hall
    clear hb hall
    by_cases hlt : k < L.length
    · obtain ⟨x, hx⟩ : ∃ x, L[k]? = some x := ⟨_, List.getElem?_eq_getElem hlt⟩
      obtain ⟨bb, off, rfl, hc⟩ := (HS.out.below HB.out) k (.string (S x)) (strs_get L k x hx)
      have HX := Lib.hid hx
      clear hx
      by_cases hs : 2147483647 < (x.length : Int)
      · go_wp2
        go_ret
        exact ⟨false, rfl, (fun e => by cases e), HB.out⟩
      · have hs' : x.length ≤ 2147483647 := by omega
        have HSX := Lib.hid hs'
        clear hs'
        go_wp2
        go_roundw
        case rel =>
          refine ⟨k + 1, by omega, by go_num, ?_, HB.out⟩
          intro y hy
          have he : L[k] = x := by have := HX.out; rw [List.getElem?_eq_getElem hlt] at this; simpa using this
          rw [List.take_succ_eq_append_getElem hlt, he] at hy
          simp only [List.mem_append, List.mem_singleton] at hy
          rcases hy with hy | rfl
          · exact HA.out y hy
          · exact HSX.out
        case measure => simp [intOf]; omega
    · obtain rfl : k = L.length := by omega
      rw [List.take_length] at HA
      have HZ := Lib.hid (show L.length ≤ 2147483647 by omega)
      go_wp2
      go_ret
      exact ⟨true, rfl, (fun _ => ⟨HZ.out, HA.out⟩), HB.out⟩

set_option maxRecDepth 100000 in
theorem between_any (A : Option Addr) (c : Nat) (L : List (List UInt8)) (least most : Nat) (w : World) (hn : L.length ≤ 2147483647) (hl : least ≤ 100000) (hm : most ≤ 100000) (hx : ∀ x ∈ L, x.length ≤ 2147483647) (hs : Sl w A (strs L)) :
    Calls Tryd.prog 22 #[.slice A L.length c, .int .i64 least, .int .i64 most] w (BetweenPost least most L w) := by
  have hS := S_size
  have HS := hide hs
  have HX := hide hx
  clear hs hx
  go_enter Tryd.func22, Tryd.ntmps22
  go_wp2
  go_loopw [7, 9, 12] (fun n _ i wr => ∃ k : Nat, k ≤ L.length ∧ i = .int .i64 k ∧ n = .int .i64 (weight 3 (L.take k) : Int) ∧ weight 3 (L.take k) ≤ 60000 ∧ (∀ x ∈ L.take k, least ≤ x.length ∧ x.length ≤ most) ∧ Below w.heap.size w wr) (fun _ _ i _ => L.length - (intOf i).toNat)
  case atStart => exact ⟨0, by omega, rfl, rfl, by simp [weight], by simp, Below.refl _ _⟩
  case round =>
    obtain ⟨k, hk, rfl, rfl, hwt, hall, hb⟩ := hrel
    have HB := Lib.hid hb
    have HA := Lib.hid hall
    clear hb hall
    by_cases hlt : k < L.length
    · obtain ⟨x, hx⟩ : ∃ x, L[k]? = some x := ⟨_, List.getElem?_eq_getElem hlt⟩
      obtain ⟨bb, off, rfl, hc⟩ := (HS.out.below HB.out) k (.string (S x)) (strs_get L k x hx)
      have hxl := HX.out x (List.mem_of_getElem? hx)
      have HXK := Lib.hid hx
      have HW1 := Lib.hid (weight_succ 3 L k x hx)
      clear hx
      generalize weight 3 (L.take k) = W at *
      have hw1 : IntKind.i64.wrap ((x.length : Int) + 3) = (x.length : Int) + 3 := by rw [IntKind.wrap_i64]; omega
      have hw2 : IntKind.i64.wrap ((W : Int) + ((x.length : Int) + 3)) = (W : Int) + ((x.length : Int) + 3) := by rw [IntKind.wrap_i64]; omega
      by_cases h1 : (x.length : Int) < (least : Int)
      · go_wp2
        go_ret
        exact ⟨false, rfl, (fun e => by cases e), HB.out⟩
      by_cases h2 : (most : Int) < (x.length : Int)
      · go_wp2
        go_ret
        exact ⟨false, rfl, (fun e => by cases e), HB.out⟩
      by_cases h3 : (W : Int) + ((x.length : Int) + 3) ≤ 60000
      · have hd : decide ((60000 : Int) < (W : Int) + ((x.length : Int) + 3)) = false := by simp only [decide_eq_false_iff_not]; omega
        have HD := Lib.hid (show least ≤ x.length ∧ x.length ≤ most ∧ W + (x.length + 3) ≤ 60000 by omega)
        clear h3
        go_wp2
        go_roundw
        case rel =>
          refine ⟨k + 1, by omega, by go_num, by rw [HW1.out]; go_num, by rw [HW1.out]; exact HD.out.2.2, ?_, HB.out⟩
          intro y hy
          have he : L[k] = x := by have := HXK.out; rw [List.getElem?_eq_getElem hlt] at this; simpa using this
          rw [List.take_succ_eq_append_getElem hlt, he] at hy
          simp only [List.mem_append, List.mem_singleton] at hy
          rcases hy with hy | rfl
          · exact HA.out y hy
          · exact ⟨HD.out.1, HD.out.2.1⟩
        case measure => simp [intOf]; omega
      · have hd : decide ((60000 : Int) < (W : Int) + ((x.length : Int) + 3)) = true := by simp only [decide_eq_true_eq]; omega
        clear h3
        go_wp2
        go_ret
        exact ⟨false, rfl, (fun e => by cases e), HB.out⟩
    · obtain rfl : k = L.length := by omega
      rw [List.take_length] at HA hwt
      have HWT := Lib.hid hwt
      clear hwt
      by_cases h0 : 0 < L.length
      · go_wp2
        go_ret
        exact ⟨_, rfl, (fun _ => ⟨by omega, HWT.out, HA.out⟩), HB.out⟩
      · go_wp2
        go_ret
        exact ⟨_, rfl, (fun e => by simp at e), HB.out⟩

set_option maxRecDepth 100000 in
theorem texts_any (A : Option Addr) (c : Nat) (L : List (List UInt8)) (b : Nat) (w : World) (hn : L.length ≤ 2147483647) (hw : weight b L ≤ 1000000) (hb : b ≤ 8) (hs : Sl w A (strs L)) :
    Calls Tryd.prog 24 #[.slice A L.length c, .int .i64 b] w fun e w' => e = .returned (.string (S (textsL b L))) ∧ Below w.heap.size w w' := by
  have hS := S_size
  have hA := S_append
  have HS := hide hs
  clear hs
  go_enter Tryd.func24, Tryd.ntmps24
  have hTL := textsL_length
  have hVL := vecL_length
  have HW := hide hw
  go_wp2
  go_loopw [5, 7, 10] (fun v _ i wr => ∃ k : Nat, k ≤ L.length ∧ i = .int .i64 k ∧ v = .string (S (textsL b (L.take k))) ∧ Below w.heap.size w wr) (fun _ _ i _ => L.length - (intOf i).toNat)
  case atStart => exact ⟨0, by omega, rfl, rfl, Below.refl _ _⟩
  case round =>
    obtain ⟨k, hk, rfl, rfl, hb'⟩ := hrel
    have HB := Lib.hid hb'
    clear hb'
    by_cases hlt : k < L.length
    · obtain ⟨x, hx⟩ : ∃ x, L[k]? = some x := ⟨_, List.getElem?_eq_getElem hlt⟩
      obtain ⟨bb, off, rfl, hc⟩ := (HS.out.below HB.out) k (.string (S x)) (strs_get L k x hx)
      have hx1 := weight_mem b L x (List.mem_of_getElem? hx)
      have hx2 := weight_take b L k
      have HX := Lib.hid hx
      clear hx
      go_wp2_with (go_at_call 19; refine (vec_any x b wr (by omega) (by omega) (by omega)).mono ?_; rintro e w' ⟨rfl, hbw⟩)
      go_roundw
      case rel => exact ⟨k + 1, by omega, by go_num, by rw [show textsL b (L.take (k + 1)) = textsL b (L.take k) ++ vecL x b from (take_flat_succ _ L k x HX.out).symm], HB.out.trans (hbw.mono HB.out.size)⟩
      case measure => simp [intOf]; omega
    · obtain rfl : k = L.length := by omega
      go_wp2
      go_ret
      exact ⟨by rw [List.take_length]; rfl, HB.out⟩
end Go.Proofs.YthfpfakdchhodaaDoor
