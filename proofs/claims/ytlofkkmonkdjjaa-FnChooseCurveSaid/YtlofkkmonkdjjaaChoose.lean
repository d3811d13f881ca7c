/- FnChooseCurve: for all lists of curves the law returns true: the program chooses the first offered curve that is configured, as the reference. No condition. -/
import Derived.Test.YtlofkkmonkdjjaaBase
namespace Go.Proofs.Ytlofkkmonkdjjaa.fnChooseCurve
open Go.ChangeShapes Go.WideShapes Go.ChangeAt Go.RowKit Go.Proofs.Ytlofkkmonkdjjaa
set_option linter.unusedVariables false

theorem elCurve : Elem Try.prog 56 53 1 2 := Elem.of Try.underlying56 (z := .int .u16 0) (by kernel_rfl) rfl (by decide)
theorem take_map_succ {α : Type} (f : α → Value) (l : List α) (k : Nat) (x : α) (hx : l[k]? = some x) : (l.take k).map f ++ [f x] = (l.take (k + 1)).map f := by
  have hk := (List.getElem?_eq_some_iff.1 hx).1
  rw [List.take_succ_eq_append_getElem hk, List.map_append]
  have : l[k] = x := by rw [List.getElem?_eq_getElem hk] at hx; simpa using hx
  rw [this]; rfl

set_option maxRecDepth 100000 in
theorem curves_any (A : Option Addr) (c : Nat) (l : List Int) (w : World) (hn : l.length ≤ 2147483647) (hs : Sl w A (l.map (Value.int .u16))) :
    Calls Try.prog 24 #[.slice A l.length c] w fun e w' => ∃ v, e = .returned v ∧ w'.ownsRow w.heap.size 53 1 v l.length (l.map (Value.int .u16)) ∧ Below w.heap.size w w' := by
  have HS := hide hs
  clear hs
  go_enter Try.func24, Try.ntmps24
  go_wp2
  go_loopw [3, 8] (fun v i wr => ∃ k : Nat, k ≤ l.length ∧ i = .int .i64 k ∧ wr.ownsRow w.heap.size 53 1 v k ((l.take k).map (Value.int .u16)) ∧ Below w.heap.size w wr) (fun _ i _ => l.length - (intOf i).toNat)
  case atStart => exact ⟨0, by omega, rfl, World.ownsRow_nil _ _ _ _, Below.refl _ _⟩
  case round =>
    obtain ⟨k, hk, rfl, hown, hb⟩ := hrel
    have HB := Lib.hid hb
    have HOWN := Lib.hid hown
    clear hb hown
    by_cases hlt : k < l.length
    · obtain ⟨x, hx⟩ : ∃ x, l[k]? = some x := ⟨_, List.getElem?_eq_getElem hlt⟩
      obtain ⟨b, off, rfl, hc⟩ := (HS.out.below HB.out) k (.int .u16 x) (by rw [List.getElem?_map, hx]; rfl)
      have HX := Lib.hid hx
      clear hx
      go_wp2_with (at_builtin; refine wpList_append_lit elCurve rfl _ _ rfl rfl HOWN.out rfl rfl (by simp [Value.oneCell']) (by omega) (by unfold maxLen; omega) HB.out.size ?_; intro v' w' hown' hb' hat)
      go_roundw
      case rel => exact ⟨k + 1, by omega, by go_num, by rw [← take_map_succ _ l k x HX.out]; exact hown', HB.out.trans hb'⟩
      case measure => simp [intOf]; omega
    · obtain rfl : k = l.length := by omega
      rw [List.take_length] at HOWN
      go_wp2
      go_ret
      exact ⟨_, rfl, HOWN.out, HB.out⟩

set_option maxRecDepth 100000 in
theorem index_any (A : Option Addr) (c : Nat) (l : List Int) (x : Int) (w : World) (hn : l.length ≤ 2147483647) (hs : Sl w A (l.map (Value.int .u16))) :
    Calls Try.prog 41 #[.slice A l.length c, .int .u16 x] w fun e w' => ∃ r : Int, e = .returned (.int .i64 r) ∧ (0 ≤ r ↔ x ∈ l) ∧ Below w.heap.size w w' := by
  have HS := hide hs
  clear hs
  go_enter Try.func41, Try.ntmps41
  go_wp2
  go_loopw [5, 8] (fun _ i wr => ∃ k : Nat, k ≤ l.length ∧ i = .int .i64 k ∧ x ∉ l.take k ∧ Below w.heap.size w wr) (fun _ i _ => l.length - (intOf i).toNat)
  case atStart => exact ⟨0, by omega, rfl, by simp, Below.refl _ _⟩
  case round =>
    obtain ⟨k, hk, rfl, hnot, hb⟩ := hrel
    have HB := Lib.hid hb
    have HN := Lib.hid hnot
    clear hb hnot
    by_cases hlt : k < l.length
    · obtain ⟨y, hy⟩ : ∃ y, l[k]? = some y := ⟨_, List.getElem?_eq_getElem hlt⟩
      obtain ⟨b, off, rfl, hc⟩ := (HS.out.below HB.out) k (.int .u16 y) (by rw [List.getElem?_map, hy]; rfl)
      have HY := Lib.hid hy
      clear hy
      by_cases he : x = y
      · have ht : (x == y) = true := by simp [he]
        have hin : x ∈ l := by rw [he]; exact List.mem_of_getElem? HY.out
        clear he
        go_wp2
        go_ret
        exact ⟨k, rfl, ⟨fun _ => hin, fun _ => by omega⟩, HB.out⟩
      · have ht : (x == y) = false := by simp [he]
        have hnot' : x ∉ l.take (k + 1) := by
          have hlk : l[k] = y := by have := HY.out; rw [List.getElem?_eq_getElem hlt] at this; simpa using this
          rw [List.take_succ_eq_append_getElem hlt, hlk]
          simp only [List.mem_append, List.mem_singleton, not_or]
          exact ⟨HN.out, he⟩
        have HN' := Lib.hid hnot'
        clear he hnot'
        go_wp2
        go_roundw
        case rel => exact ⟨k + 1, by omega, by go_num, HN'.out, HB.out⟩
        case measure => simp [intOf]; omega
    · obtain rfl : k = l.length := by omega
      rw [List.take_length] at HN
      go_wp2
      go_ret
      exact ⟨-1, rfl, ⟨fun h => by omega, fun h => absurd h HN.out⟩, HB.out⟩

theorem contains_any (A : Option Addr) (c : Nat) (l : List Int) (x : Int) (w : World) (hn : l.length ≤ 2147483647) (hs : Sl w A (l.map (Value.int .u16))) :
    Calls Try.prog 40 #[.slice A l.length c, .int .u16 x] w fun e w' => e = .returned (.bool (decide (x ∈ l))) ∧ Below w.heap.size w w' := by
  have HI := hide (index_any A c l x w hn hs)
  clear hs
  go_enter Try.func40, Try.ntmps40
  go_wp2_with (go_at_call 41; refine HI.out.mono ?_; rintro e w' ⟨r, rfl, hr, hb⟩)
  go_ret
  refine ⟨ret_bool ?_, hb⟩
  rw [Bool.eq_iff_iff]
def chosen (conf off : List Int) : Option Int := off.find? (fun c => decide (c ∈ conf))
abbrev outOf (r : Option Int) : Ending := .returned (.tuple #[.int .u16 (r.getD 0), .bool r.isSome])
theorem find_take_none {conf off : List Int} {k : Nat} {y : Int} (hN : ∀ z ∈ off.take k, z ∉ conf) (hy : off[k]? = some y) (h : y ∉ conf) : ∀ z ∈ off.take (k + 1), z ∉ conf := by
  have hk := (List.getElem?_eq_some_iff.1 hy).1
  have hlk : off[k] = y := by rw [List.getElem?_eq_getElem hk] at hy; simpa using hy
  intro z hz
  rw [List.take_succ_eq_append_getElem hk, hlk] at hz
  simp only [List.mem_append, List.mem_singleton] at hz
  rcases hz with hz | rfl
  · exact hN z hz
  · exact h
theorem chosen_some {conf off : List Int} {k : Nat} {y : Int} (hN : ∀ z ∈ off.take k, z ∉ conf) (hy : off[k]? = some y) (h : y ∈ conf) : chosen conf off = some y := by
  have hk := (List.getElem?_eq_some_iff.1 hy).1
  have hlk : off[k] = y := by rw [List.getElem?_eq_getElem hk] at hy; simpa using hy
  unfold chosen
  rw [← List.take_append_drop k off, List.find?_append, List.find?_eq_none.2 (fun z hz => by simpa using hN z hz), List.drop_eq_getElem_cons hk, hlk]
  simp [h]
theorem chosen_none {conf off : List Int} (hN : ∀ z ∈ off, z ∉ conf) : chosen conf off = none := by
  unfold chosen
  exact List.find?_eq_none.2 (fun z hz => by simpa using hN z hz)

set_option maxRecDepth 100000 in
theorem select_any (A B : Option Addr) (c d : Nat) (conf off : List Int) (w : World) (hn : conf.length ≤ 2147483647) (hm : off.length ≤ 2147483647) (hs : Sl w A (conf.map (Value.int .u16))) (ht : Sl w B (off.map (Value.int .u16))) :
    Calls Try.prog 35 #[.slice A conf.length c, .slice B off.length d] w fun e w' => e = outOf (chosen conf off) ∧ Below w.heap.size w w' := by
  have HS := hide hs
  have HT := hide ht
  clear hs ht
  go_enter Try.func35, Try.ntmps35
  go_wp2
  go_loopw [7, 10] (fun _ i wr => ∃ k : Nat, k ≤ off.length ∧ i = .int .i64 k ∧ (∀ z ∈ off.take k, z ∉ conf) ∧ Below w.heap.size w wr) (fun _ i _ => off.length - (intOf i).toNat)
  case atStart => exact ⟨0, by omega, rfl, by simp, Below.refl _ _⟩
  case round =>
    obtain ⟨k, hk, rfl, hnot, hb⟩ := hrel
    have HB := Lib.hid hb
    have HN := Lib.hid hnot
    clear hb hnot
    by_cases hlt : k < off.length
    · obtain ⟨y, hy⟩ : ∃ y, off[k]? = some y := ⟨_, List.getElem?_eq_getElem hlt⟩
      obtain ⟨b, o, rfl, hc⟩ := (HT.out.below HB.out) k (.int .u16 y) (by rw [List.getElem?_map, hy]; rfl)
      have HY := Lib.hid hy
      have HC := hide (contains_any A c conf y wr hn (HS.out.below HB.out))
      clear hy
      by_cases he : y ∈ conf
      · have hd : decide (y ∈ conf) = true := by simp [he]
        have hF := Lib.hid (chosen_some HN.out HY.out he)
        clear he
        go_wp2_with (go_at_call 40; refine HC.out.mono ?_; rintro e w' ⟨rfl, hb'⟩)
        go_ret2
        exact ⟨by rw [hF.out]; rfl, HB.out.trans (hb'.mono HB.out.size)⟩
      · have hd : decide (y ∈ conf) = false := by simp [he]
        have hF := Lib.hid (find_take_none HN.out HY.out he)
        clear he
        go_wp2_with (go_at_call 40; refine HC.out.mono ?_; rintro e w' ⟨rfl, hb'⟩)
        go_roundw
        case rel => exact ⟨k + 1, by omega, by go_num, hF.out, HB.out.trans (hb'.mono HB.out.size)⟩
        case measure => simp [intOf]; omega
    · obtain rfl : k = off.length := by omega
      rw [List.take_length] at HN
      have hF := Lib.hid (chosen_none HN.out)
      go_wp2
      go_ret2
      exact ⟨by rw [hF.out]; rfl, HB.out⟩

theorem zz_any (A B : Option Addr) (c d : Nat) (conf off : List Int) (w : World) (hn : conf.length ≤ 2147483647) (hm : off.length ≤ 2147483647) (hs : Sl w A (conf.map (Value.int .u16))) (ht : Sl w B (off.map (Value.int .u16))) :
    Calls Try.prog 23 #[.slice A conf.length c, .slice B off.length d] w fun e w' => e = outOf (chosen conf off) ∧ Below w.heap.size w w' := by
  have HI := hide (select_any A B c d conf off w hn hm hs ht)
  clear hs ht
  go_enter Try.func23, Try.ntmps23
  go_wp2_with (go_at_call 35; refine HI.out.mono ?_; rintro e w' ⟨rfl, hb⟩)
  go_ret2
  exact ⟨rfl, hb⟩

set_option maxRecDepth 100000 in
theorem impl_any (A B : Option Addr) (c d : Nat) (conf off : List Int) (w : World) (hn : conf.length ≤ 2147483647) (hm : off.length ≤ 2147483647) (hs : Sl w A (conf.map (Value.int .u16))) (ht : Sl w B (off.map (Value.int .u16))) :
    Calls Try.prog 10 #[.slice A conf.length c, .slice B off.length d] w fun e w' => e = outOf (chosen conf off) ∧ Below w.heap.size w w' := by
  have H1 := hide (curves_any A c conf w hn hs)
  have HT := hide ht
  clear hs ht
  go_enter Try.func10, Try.ntmps10
  go_wp2_with fail
  refine H1.out.mono ?_
  rintro e w1 ⟨v, rfl, hown, hb⟩
  have HO := Lib.hid hown
  have HB := Lib.hid hb
  clear hown hb
  go_wp2_with fail
  refine (curves_any B d off w1 hm (HT.out.below HB.out)).mono ?_
  rintro e w2 ⟨v2, rfl, hown2, hb2⟩
  have HB2 := Lib.hid hb2
  obtain ⟨A1, c1, rfl, hs1, _, _⟩ := own_sl HO.out
  obtain ⟨A2, c2, rfl, hs2, _, _⟩ := own_sl hown2
  have HS1 := hide hs1
  have HS2 := hide hs2
  clear hs1 hs2 hown2 hb2
  go_wp2_with fail
  refine (zz_any A1 A2 c1 c2 conf off w2 hn hm (HS1.out.below HB2.out) HS2.out).mono ?_
  rintro e w3 ⟨rfl, hb3⟩
  have HB3 := Lib.hid hb3
  clear hb3

  go_wp2
  go_ret2
  exact ⟨rfl, (HB.out.trans (HB2.out.mono HB.out.size)).trans (HB3.out.mono (Nat.le_trans HB.out.size HB2.out.size))⟩

set_option maxRecDepth 100000 in
theorem spec_any (A B : Option Addr) (c d : Nat) (conf off : List Int) (w : World) (hn : conf.length ≤ 2147483647) (hm : off.length ≤ 2147483647) (hs : Sl w A (conf.map (Value.int .u16))) (ht : Sl w B (off.map (Value.int .u16))) :
    Calls Try.prog 11 #[.slice A conf.length c, .slice B off.length d] w fun e w' => e = outOf (chosen conf off) ∧ Below w.heap.size w w' := by
  have HS := hide hs
  have HT := hide ht
  clear hs ht
  go_enter Try.func11, Try.ntmps11
  go_wp2
  go_loopw [6, 7] (fun i _ wr => ∃ k : Nat, k ≤ off.length ∧ i = .int .i64 k ∧ (∀ z ∈ off.take k, z ∉ conf) ∧ Below w.heap.size w wr) (fun i _ _ => off.length - (intOf i).toNat)
  case atStart => exact ⟨0, by omega, rfl, by simp, Below.refl _ _⟩
  case round =>
    obtain ⟨k, hk, rfl, hnot, hb⟩ := hrel
    have HB := Lib.hid hb
    have HN := Lib.hid hnot
    clear hb hnot
    by_cases hlt : k < off.length
    · obtain ⟨y, hy⟩ : ∃ y, off[k]? = some y := ⟨_, List.getElem?_eq_getElem hlt⟩
      obtain ⟨wo, rfl⟩ : ∃ wo : World, wo = wr := ⟨_, rfl⟩
      have HY := Lib.hid hy
      clear hy
      have hk0 : (0 : Int) ≤ (k : Int) := by omega
      have hk1 : (k : Int) < (off.length : Int) := by omega
      go_wp2
      go_loopw [7] (fun i wr => ∃ j : Nat, j ≤ conf.length ∧ i = .int .i64 j ∧ (y ∉ conf.take j) ∧ Below w.heap.size w wr) (fun i _ => conf.length - (intOf i).toNat)
      case atStart => exact ⟨0, by omega, rfl, by simp, HB.out⟩
      case round =>
        obtain ⟨j, hj, rfl, hnotj, hbj⟩ := hrel
        have HBJ := Lib.hid hbj
        have HNJ := Lib.hid hnotj
        clear hbj hnotj
        obtain ⟨b, o, rfl, hc⟩ := (HT.out.below HBJ.out) k (.int .u16 y) (by rw [List.getElem?_map, HY.out]; rfl)
        by_cases hltj : j < conf.length
        · obtain ⟨x, hx⟩ : ∃ x, conf[j]? = some x := ⟨_, List.getElem?_eq_getElem hltj⟩
          obtain ⟨b', o', rfl, hc'⟩ := (HS.out.below HBJ.out) j (.int .u16 x) (by rw [List.getElem?_map, hx]; rfl)
          have HX := Lib.hid hx
          clear hx
          have hj0 : (0 : Int) ≤ (j : Int) := by omega
          have hj1 : (j : Int) < (conf.length : Int) := by omega
          go_wp2
          go_quiet (fail)
          by_cases he : y = x
          · have ht : (y == x) = true := by simp [he]
            have hF := Lib.hid (chosen_some HN.out HY.out (by rw [he]; exact List.mem_of_getElem? HX.out))
            clear he
            go_wp2
            go_ret2
            exact ⟨by rw [hF.out]; rfl, below_drewN HBJ.out _⟩
          · have ht : (y == x) = false := by simp [he]
            have hnot' : y ∉ conf.take (j + 1) := by
              have hlk : conf[j] = x := by have := HX.out; rw [List.getElem?_eq_getElem hltj] at this; simpa using this
              rw [List.take_succ_eq_append_getElem hltj, hlk]
              simp only [List.mem_append, List.mem_singleton, not_or]
              exact ⟨HNJ.out, he⟩
            have HN' := Lib.hid hnot'
            clear he hnot'
            go_wp2
            go_roundw
            case rel => exact ⟨j + 1, by omega, by go_num, HN'.out, below_drewN HBJ.out _⟩
            case measure => simp [intOf]; omega
        · obtain rfl : j = conf.length := by omega
          rw [List.take_length] at HNJ
          have hF := Lib.hid (find_take_none HN.out HY.out HNJ.out)
          go_wp2
          go_roundw
          case rel => exact ⟨k + 1, by omega, by go_num, hF.out, HBJ.out⟩
          case measure => simp [intOf]; omega
    · obtain rfl : k = off.length := by omega
      rw [List.take_length] at HN
      have hF := Lib.hid (chosen_none HN.out)
      go_wp2
      go_ret2
      exact ⟨by rw [hF.out]; rfl, HB.out⟩

set_option maxRecDepth 100000 in
theorem walk (A0 : Option Addr) (c0 : Nat) (a0 : List Int) (A1 : Option Addr) (c1 : Nat) (a1 : List Int) (w : World) (hl0 : a0.length ≤ c0) (hm0 : c0 ≤ maxLen) (hs0 : Sl w A0 (a0.map (Value.int .u16))) (w0 : ∀ n ∈ a0, (Lit.int .u16 n).wf = true) (hl1 : a1.length ≤ c1) (hm1 : c1 ≤ maxLen) (hs1 : Sl w A1 (a1.map (Value.int .u16))) (w1 : ∀ n ∈ a1, (Lit.int .u16 n).wf = true) :
    Calls Try.prog 4 #[.slice A0 a0.length c0, .slice A1 a1.length c1] w fun e w' => e = .returned (.bool true) ∧ Below w.heap.size w w' := by
  have HS := hide hs0
  have HT := hide hs1
  clear hs0 hs1 w0 w1
  by_cases hz0 : 2147483647 < (a0.length : Int)
  · go_enter Try.func4, Try.ntmps4
    go_wp2
    go_ret
    exact ⟨rfl, Below.refl _ _⟩
  by_cases hz1 : 2147483647 < (a1.length : Int)
  · go_enter Try.func4, Try.ntmps4
    go_wp2
    go_ret
    exact ⟨rfl, Below.refl _ _⟩
  by_cases hz2 : 200 < (a0.length : Int)
  · go_enter Try.func4, Try.ntmps4
    go_wp2
    go_ret
    exact ⟨rfl, Below.refl _ _⟩
  by_cases hz3 : 200 < (a1.length : Int)
  · go_enter Try.func4, Try.ntmps4
    go_wp2
    go_ret
    exact ⟨rfl, Below.refl _ _⟩
  go_enter Try.func4, Try.ntmps4
  go_wp2_with fail
  refine (impl_any A0 A1 c0 c1 a0 a1 w (by omega) (by omega) HS.out HT.out).mono ?_
  rintro e w1 ⟨rfl, hb⟩
  have HB := Lib.hid hb
  clear hb
  go_wp2_with fail
  refine (spec_any A0 A1 c0 c1 a0 a1 w1 (by omega) (by omega) (HS.out.below HB.out) (HT.out.below HB.out)).mono ?_
  rintro e w2 ⟨rfl, hb2⟩
  have HB2 := Lib.hid hb2
  clear hb2
  cases chosen a0 a1 with
  | none =>
    go_wp2
    go_ret
    exact ⟨rfl, HB.out.trans (HB2.out.mono HB.out.size)⟩
  | some c =>
    go_wp2
    go_ret
    exact ⟨ret_bool (by simp), HB.out.trans (HB2.out.mono HB.out.size)⟩

set_option maxRecDepth 100000 in
theorem lifted (os : Os) (started : os.Started) (H : Type) (enc : TypeId × Value → H) :
    ReturnsInHanded {} Try.checked os 4 .any (Rows.fnChooseCurveSpec.pre6 enc Try.prog Try.f4 Rows.fnChooseCurveRow.domain false) (Rows.fnChooseCurveSpec.post enc Try.prog Try.f4 false true false false) := by
  refine returnsInHanded_of_change (C := Try.checked) own started (by kernel_rfl) Try.func4
    (ChangeSpec.witness6 (enc := enc) (C := Try.checked) false ⟨#[], #[.slice none 0 0, .slice none 0 0], []⟩ 8 (by kernel_rfl) (by kernel_rfl) (by kernel_rfl) (by kernel_rfl)) ?_
  intro W base args ds gs before hval0 hW hcnd hreach
  have hval : ∀ (j : Nat) t v, Try.f4.params[j]? = some t → args[j]? = some v → Value.okWide Try.prog W .any base t v := hval0
  have hW' := hW
  obtain ⟨p, q, hA0, hV, rfl, hfz, hnd⟩ := hW
  have hA : DataW.TrodAll enc Try.prog W 0 (fun _ => true) true Try.f4.params.toList args.toList ds p := hA0
  rw [Try.params4] at hA hval
  obtain ⟨v0, vs0, d0, ds0, p0, q0, hargs, rfl, rfl, h0, r0⟩ := trodAll_cons hA
  obtain ⟨v1, vs1, d1, ds1, p1, q1, rfl, rfl, rfl, h1, r1⟩ := trodAll_cons r0
  obtain ⟨rfl, rfl, rfl⟩ := trodAll_nil r1
  obtain rfl : args = #[v0, v1] := by cases args; simp_all
  obtain ⟨rfl, rfl⟩ := trodVars_none hV
  obtain ⟨A0, c0, a0, rfl, hl0, hm0, hs0, w0⟩ := open_ints_sl Try.underlying24 Try.underlying25 (by kernel_rfl) (hval 0 24 v0 rfl rfl) h0
  obtain ⟨A1, c1, a1, rfl, hl1, hm1, hs1, w1⟩ := open_ints_sl Try.underlying24 Try.underlying25 (by kernel_rfl) (hval 1 24 v1 rfl rfl) h1
  clear hA0 hval0
  refine (walk A0 c0 a0 A1 c1 a1 W hl0 hm0 hs0 w0 hl1 hm1 hs1 w1).mono fun e W' ⟨he, hb⟩ => ?_
  subst he
  exact ⟨_, rfl, law_post laidOut (by kernel_rfl) rfl Try.underlying4 rfl hW' rfl rfl rfl hb⟩

theorem over : Rows.fnChooseCurveRow.holds Try.pinned (OpenSpec.ofChange Rows.fnChooseCurveSpec) :=
  OpenClaim.holds_of_wide 4 Try.f4 rfl rfl rfl rfl rfl rfl rfl ⟨rfl, rfl, rfl, rfl, rfl⟩ rfl rfl rfl rfl rfl (by kernel_rfl) Try.func4 (by kernel_rfl)
    (of_decide_eq_true (by kernel_rfl)) (by unfold Func.isWrapper; first | (rw [if_pos (by decide +kernel)]; kernel_rfl) | (rw [if_neg (by decide +kernel)]; exact ⟨rfl, rfl⟩))
    (fun os started H enc _ => lifted os started H enc)

/-- THE STATEMENT -/
theorem proved : Rows.FnChooseCurveSaid := over
#print axioms proved
end Go.Proofs.Ytlofkkmonkdjjaa.fnChooseCurve
