/- FnGroupsWrite: for every list of groups the law returns true: fewer than 1000 groups of the three known ones are written as type, lengths and numbers. No condition. -/
import Derived.Test.YtlofkkmonkdjjaaBin
import Derived.StillTailTactics
import Derived.Deep.RegionHeld3
import Derived.Deep.RegionWith
namespace Go.Proofs.Ytlofkkmonkdjjaa.fnGroupsWrite
open Go.ChangeShapes Go.WideShapes Go.ChangeAt Go.RowKit Go.Proofs.Ytlofkkmonkdjjaa
set_option linter.unusedVariables false

theorem typeValue_any (x : Value) (w : World) : Calls Try.prog 39 #[.agg #[x]] w fun e w' => e = .returned (.int .u16 10) ∧ w.alloc (.cells #[x] 102) = w' := by
  go_enter Try.func39, Try.ntmps39
  go_wp2
  go_ret
  exact ⟨rfl, rfl⟩
/-- The six bytes ahead of n groups. -/
def head (n : Nat) : List UInt8 := bigL 2 10 ++ (bigL 2 (2 + n * 2) ++ bigL 2 (n * 2))
theorem head_length (n : Nat) : (head n).length = 6 := by simp [head, bigL_length]
theorem head_set (n : Nat) (h : n ≤ 1000) : cells8 (head n) = ((((((zeros 6).set 0 (hi8 10)).set (0 + 1) (lo8 10)).set 2 (hi8 (2 + (n : Int) * 2))).set (2 + 1) (lo8 (2 + (n : Int) * 2))).set 4 (hi8 ((n : Int) * 2))).set (4 + 1) (lo8 ((n : Int) * 2)) := by
  have e1 := bigL2 10 (by decide) (by decide)
  have e2 := bigL2 (2 + (n : Int) * 2) (by omega) (by omega)
  have e3 := bigL2 ((n : Int) * 2) (by omega) (by omega)
  rw [show (10 : Int).toNat = 10 from rfl] at e1
  rw [show (2 + (n : Int) * 2).toNat = 2 + n * 2 by omega] at e2
  rw [show ((n : Int) * 2).toNat = n * 2 by omega] at e3
  rw [head, cells8_append, cells8_append, e1, e2, e3]
  rfl
set_option maxRecDepth 100000 in
theorem marshal_any (p : Nat) (A : Option Addr) (c : Nat) (l : List Int) (w : World) (hn : l.length ≤ 1000) (hp : w.cell? ⟨p, 0, none⟩ = some (.slice A l.length c)) (hs : Sl w A (l.map (Value.int .u16))) (hw : ∀ n ∈ l, (Lit.int .u16 n).wf = true) :
    Calls Try.prog 32 #[.pointer (some ⟨p, 0, none⟩)] w fun e w' => ∃ v, e = .returned (.tuple #[v, .nilIface]) ∧ w'.ownsRow w.heap.size 5 1 v (6 + l.length * 2) (cells8 (head l.length ++ numsL l 2)) ∧ Below w.heap.size w w' := by
  have HS := hide hs
  have HW := hide hw
  clear hs hw
  have hplt : p < w.heap.size := World.block_lt_of_cell? w _ hp
  go_enter Try.func32, Try.ntmps32
  have hmk := fun W : World => make_bytes_at 6 6 rfl (by decide) W .i64 .i64
  go_wp2
  have hown : (w.alloc (.cells (zeros 6).toArray 5)).ownsRow w.heap.size 5 1 (.slice (some ⟨w.heap.size, 0, none⟩) 6 6) 6 (zeros 6) :=
    (Blk.new w 5 (zeros 6)).to_own (rest := []) (Nat.le_refl _) rfl rfl (by decide)
  have HO := Lib.hid hown
  clear hown
  go_region_held3 (fun w' => w'.cell? ⟨p, 0, none⟩ = some (.slice A l.length c)) (first | go_keep | exact (hb1.cell (p := ⟨p, 0, none⟩) hplt).trans (by go_keep)) (first | (go_at_call 39; refine (typeValue_any _ _).mono ?_; rintro e w' ⟨rfl, rfl⟩) | (go_at_call 38; refine (put16_own w.heap.size w.heap.size 0 _ _ 6 6 (zeros 6) _ 10 _ rfl (by decide) (by decide) (by decide) (by exact (HO.out.alloc _).drew) (by decide)).mono ?_; rintro e w1 ⟨rfl, hown1, hg1, hb1⟩))
  have hp1 : w1.cell? ⟨p, 0, none⟩ = some (.slice A l.length c) := by assumption
  have HO1 := Lib.hid hown1
  have HB1 := Lib.hid (show Below w.heap.size w w1 from (((Below.refl _ _).alloc (Nat.le_refl _) _).alloc (by simp) _).drew.trans hb1)
  clear hown1 hg1 hb1 hmk HO hp
  go_wp2
  have hW1 : IntKind.i64.wrap ((l.length : Int) * 2) = (l.length : Int) * 2 := by rw [IntKind.wrap_i64]; omega
  have hW2 : IntKind.i64.wrap (2 + (l.length : Int) * 2) = 2 + (l.length : Int) * 2 := by rw [IntKind.wrap_i64]; omega
  have hW3 : IntKind.u16.wrap (2 + (l.length : Int) * 2) = 2 + (l.length : Int) * 2 := by rw [IntKind.wrap_u16]; omega
  have hW4 : IntKind.u16.wrap ((l.length : Int) * 2) = (l.length : Int) * 2 := by rw [IntKind.wrap_u16]; omega
  go_region_held3 (fun w' => w'.cell? ⟨p, 0, none⟩ = some (.slice A l.length c)) (first | go_keep | exact (hb2.cell (p := ⟨p, 0, none⟩) hplt).trans (by go_keep)) (first | (go_at_call 38; refine (put16_own w.heap.size w.heap.size 2 _ _ 6 6 _ _ (2 + l.length * 2) _ rfl (by omega) (by omega) (by decide) (by exact HO1.out.drew) (by decide)).mono ?_; rintro e w2 ⟨rfl, hown2, hg2, hb2⟩))
  have hp2 : w2.cell? ⟨p, 0, none⟩ = some (.slice A l.length c) := by assumption
  have HO2 := Lib.hid hown2
  have HB2 := Lib.hid (HB1.out.drew.trans hb2)
  clear hown2 hg2 hb2 HO1 HB1 hp1
  go_wp2
  go_region_held3 (fun w' => w'.cell? ⟨p, 0, none⟩ = some (.slice A l.length c)) (first | go_keep | exact (hb3.cell (p := ⟨p, 0, none⟩) hplt).trans (by go_keep)) (first | (go_at_call 38; refine (put16_own w.heap.size w.heap.size 4 _ _ 6 6 _ _ (l.length * 2) _ rfl (by omega) (by omega) (by decide) (by exact HO2.out.drew) (by decide)).mono ?_; rintro e w3 ⟨rfl, hown3, hg3, hb3⟩))
  have hp3 : w3.cell? ⟨p, 0, none⟩ = some (.slice A l.length c) := by assumption
  have HB3 := Lib.hid (show Below w.heap.size w w3 from HB2.out.drew.trans hb3)
  have HO3 := Lib.hid (show w3.ownsRow w.heap.size 5 1 (.slice (some ⟨w.heap.size, 0, none⟩) 6 6) 6 (cells8 (head l.length)) by rw [head_set l.length (by omega)]; exact hown3)
  clear hown3 hg3 hb3 HO2 HB2 hp2 hW1 hW2 hW3 hW4
  go_wp2
  go_loopw [4, 6, 43] (fun v _ i wr => ∃ k : Nat, k ≤ l.length ∧ i = .int .i64 k ∧ wr.ownsRow w.heap.size 5 1 v (6 + 2 * k) (cells8 (head l.length ++ numsL (l.take k) 2)) ∧ Below w.heap.size w wr) (fun _ _ i _ => l.length - (intOf i).toNat)
  case atStart => exact ⟨0, by omega, rfl, by simpa [numsL] using HO3.out, HB3.out⟩
  case round =>
    obtain ⟨k, hk, rfl, hown, hb'⟩ := hrel
    have HB := Lib.hid hb'
    have HO := Lib.hid hown
    clear hb' hown HO3 HB3
    by_cases hlt : k < l.length
    · obtain ⟨x, hx⟩ : ∃ x, l[k]? = some x := ⟨_, List.getElem?_eq_getElem hlt⟩
      obtain ⟨bb, off, rfl, hc⟩ := (HS.out.below HB.out) k (.int .u16 x) (by rw [List.getElem?_map, hx]; rfl)
      obtain ⟨hx1, hx2⟩ := wf_u16 (HW.out x (List.mem_of_getElem? hx))
      have HX := Lib.hid hx
      clear hx
      go_wp2_with (at_builtin; refine wpList_append_lit el8 rfl _ _ rfl rfl HO.out rfl rfl (by simp [Value.oneCell']) (by omega) (by unfold maxLen; omega) HB.out.size ?_; intro v4 w4 hown4 hb4 hat4)
      obtain ⟨g4, c4, hv4, hc4, hm4, hg4, hl4⟩ := own_form hown4 (by omega)
      subst hv4
      have HO4 := Lib.hid hown4
      have HB4 := Lib.hid (HB.out.trans hb4)
      clear hown4 hb4 hat4
      obtain ⟨N, hN⟩ : ∃ N, N = 6 + 2 * k + 2 := ⟨_, rfl⟩
      rw [← hN] at HO4 hc4 ⊢
      have hN2 : 2 ≤ N := by omega
      have hNle : N ≤ 2008 := by omega
      have HN := Lib.hid hN
      clear hN
      have hw : IntKind.i64.wrap ((N : Int) - 2) = ((N - 2 : Nat) : Int) := by rw [IntKind.wrap_i64]; omega
      have hlo : (0 : Int) ≤ ((N - 2 : Nat) : Int) := by omega
      have hhi : ((N - 2 : Nat) : Int) ≤ (N : Int) := by omega
      have hne : ¬ c4 = N - 2 := by omega
      go_region_held3 (fun w' => True) (first | trivial | go_keep) (first | (go_at_call 38; refine (put16_own w.heap.size g4 (N - 2) _ _ N c4 _ x x _ rfl hx1 hx2 (by omega) (by exact HO4.out.drew) (by omega)).mono ?_; rintro e w5 ⟨rfl, hown5, hg5, hb5⟩))
      have HO5 := Lib.hid hown5
      have HB5 := Lib.hid (HB4.out.drew.trans hb5)
      clear hown5 hg5 hb5 HO4 HB4 hw
      go_wp2
      go_roundw
      case rel =>
        refine ⟨k + 1, by omega, by go_num, ?_, HB5.out⟩
        have h := HO5.out
        have hN := HN.out
        rw [put_tail _ _ _ x (N - 2) (by simp only [List.length_append, head_length, numsL_length, List.length_take]; omega) hx1 hx2, List.append_assoc, show numsL (l.take k) 2 ++ bigL 2 x.toNat = numsL (l.take (k + 1)) 2 from take_flat_succ _ l k x HX.out] at h
        rw [show 6 + 2 * (k + 1) = N by omega]
        exact h
      case measure => simp [intOf]; omega
    · obtain rfl : k = l.length := by omega
      rw [List.take_length] at HO
      go_wp2
      go_ret2
      exact ⟨_, rfl, by rw [show 6 + 2 * l.length = 6 + l.length * 2 by omega] at HO; exact HO.out, HB.out⟩

theorem elCurve : Elem Try.prog 56 53 1 2 := Elem.of Try.underlying56 (z := .int .u16 0) (by kernel_rfl) rfl (by decide)
set_option maxRecDepth 100000 in
theorem curves_any (A : Option Addr) (c : Nat) (l : List Int) (w : World) (hn : l.length ≤ 2147483647) (hs : Sl w A (l.map (Value.int .u16))) :
    Calls Try.prog 24 #[.slice A l.length c] w fun e w' => ∃ v, e = .returned v ∧ w'.ownsRow w.heap.size 53 1 v l.length (l.map (Value.int .u16)) ∧ Below w.heap.size w w' := by
  have HS := hide hs
  clear hs
  go_enter Try.func24, Try.ntmps24
  go_wp2
  go_loopw [3, 8] (fun v i wr => ∃ k : Nat, k ≤ l.length ∧ i = .int .i64 k ∧ wr.ownsRow w.heap.size 53 1 v k ((l.take k).map (Value.int .u16)) ∧ Below w.heap.size w wr) (fun _ i _ => l.length - (intOf i).toNat)
  case atStart => exact ⟨0, by omega, rfl, World.ownsRow_nil _ _ _ _, Below.refl _ _⟩
  case round =>
    obtain ⟨k, hk, rfl, hown, hb⟩ := hrel
    have HB := Lib.hid hb
    have HOWN := Lib.hid hown
    clear hb hown
    by_cases hlt : k < l.length
    · obtain ⟨x, hx⟩ : ∃ x, l[k]? = some x := ⟨_, List.getElem?_eq_getElem hlt⟩
      obtain ⟨b, off, rfl, hc⟩ := (HS.out.below HB.out) k (.int .u16 x) (by rw [List.getElem?_map, hx]; rfl)
      have HX := Lib.hid hx
      clear hx
      go_wp2_with (at_builtin; refine wpList_append_lit elCurve rfl _ _ rfl rfl HOWN.out rfl rfl (by simp [Value.oneCell']) (by omega) (by unfold maxLen; omega) HB.out.size ?_; intro v' w' hown' hb' hat)
      go_roundw
      case rel => exact ⟨k + 1, by omega, by go_num, by rw [← take_map_succ _ l k x HX.out]; exact hown', HB.out.trans hb'⟩
      case measure => simp [intOf]; omega
    · obtain rfl : k = l.length := by omega
      rw [List.take_length] at HOWN
      go_wp2
      go_ret
      exact ⟨_, rfl, HOWN.out, HB.out⟩

def MadeGroups (l : List Int) (w : World) (e : Ending) (w' : World) : Prop :=
  ∃ g A c, e = .returned (.pointer (some ⟨g, 0, none⟩)) ∧ w'.cell? ⟨g, 0, none⟩ = some (.slice A l.length c) ∧ Sl w' A (l.map (Value.int .u16)) ∧ Below w.heap.size w w'
set_option maxRecDepth 100000 in
theorem make_any (f0 f1 f2 f4 f5 f6 f7 f8 f9 f10 f11 f12 : Value) (A : Option Addr) (c : Nat) (l : List Int) (w : World) (hn : l.length ≤ 2147483647) (hs : Sl w A (l.map (Value.int .u16))) :
    Calls Try.prog 31 #[.agg #[f0, f1, f2, .slice A l.length c, f4, f5, f6, f7, f8, f9, f10, f11, f12]] w (MadeGroups l w) := by
  have HS := hide hs
  clear hs
  go_enter Try.func31, Try.ntmps31
  go_wp2_with fail
  refine (curves_any A c l _ hn (by exact HS.out.below ((Below.refl _ _).alloc (Nat.le_refl _) _))).mono ?_
  rintro e w1 ⟨v, rfl, hown, hb⟩
  obtain ⟨A', c', rfl, hs', _, _⟩ := own_sl hown
  have HS' := hide hs'
  have HB := Lib.hid (show Below w.heap.size w w1 from ((Below.refl _ _).alloc (Nat.le_refl _) _).trans (hb.mono (by simp)))
  clear hs' hown hb
  go_wp2
  go_ret
  exact ⟨w1.heap.size, A', c', rfl, by rw [World.cell?_alloc_mark]; rfl, HS'.out.below ((Below.refl _ _).alloc (Nat.le_refl _) _), HB.out.alloc HB.out.size _⟩

def WroteGroups (l : List Int) (w : World) (e : Ending) (w' : World) : Prop :=
  e = .returned (.tuple #[.string (S (head l.length ++ numsL l 2)), .bool true]) ∧ Below w.heap.size w w'
set_option maxRecDepth 100000 in
theorem write_any (f0 f1 f2 f4 f5 f6 f7 f8 f9 f10 f11 f12 : Value) (A : Option Addr) (c : Nat) (l : List Int) (w : World) (hn : l.length ≤ 1000) (hs : Sl w A (l.map (Value.int .u16))) (hw : ∀ n ∈ l, (Lit.int .u16 n).wf = true) :
    Calls Try.prog 18 #[.agg #[f0, f1, f2, .slice A l.length c, f4, f5, f6, f7, f8, f9, f10, f11, f12]] w (WroteGroups l w) := by
  have HS := hide hs
  have HW := hide hw
  clear hs hw
  go_enter Try.func18, Try.ntmps18
  go_wp2_with fail
  refine (make_any _ _ _ _ _ _ _ _ _ _ _ _ A c l _ (by omega) (by exact HS.out.below ((Below.refl _ _).alloc (Nat.le_refl _) _))).mono ?_
  rintro e w1 ⟨g, A', c', rfl, hc, hs', hb⟩
  have HC := hide hc
  have HS' := hide hs'
  have HB := Lib.hid (show Below w.heap.size w w1 from ((Below.refl _ _).alloc (Nat.le_refl _) _).trans (hb.mono (by simp)))
  clear hc hs' hb
  go_wp2_with fail
  refine (marshal_any g A' c' l w1 hn HC.out HS'.out HW.out).mono ?_
  rintro e w2 ⟨v, rfl, hown, hb2⟩
  obtain ⟨A2, c2, rfl, hs2, _, _⟩ := own_sl hown
  have HS2 := hide hs2
  have HB2 := Lib.hid (HB.out.trans (hb2.mono HB.out.size))
  clear hown hs2 hb2
  go_wp2_with fail
  refine (text_ok A2 c2 _ _ w2 (by simp only [List.length_append, head_length, numsL_length]) HS2.out).mono ?_
  rintro e w3 ⟨rfl, rfl⟩
  go_wp2
  go_ret2
  exact ⟨rfl, HB2.out⟩

theorem due (l : List Int) (h : l.length ≤ 1000) : extL 10 (vecL (numsL l 2) 2) = head l.length ++ numsL l 2 := by
  unfold extL head
  simp only [vecL, bigL_length, List.length_append, numsL_length, List.append_assoc]

set_option maxRecDepth 100000 in
theorem walk (A0 : Option Addr) (c0 : Nat) (a0 : List Int) (w : World) (hl0 : a0.length ≤ c0) (hm0 : c0 ≤ maxLen) (hs0 : Sl w A0 (a0.map (Value.int .u16))) (w0 : ∀ n ∈ a0, (Lit.int .u16 n).wf = true) :
    Calls Try.prog 7 #[.slice A0 a0.length c0] w fun e w' => e = .returned (.bool true) ∧ Below w.heap.size w w' := by
  have HS := hide hs0
  have HW := hide w0
  clear hs0 w0
  by_cases hz0 : 2147483647 < (a0.length : Int)
  · go_enter Try.func7, Try.ntmps7
    go_wp2
    go_ret
    exact ⟨rfl, Below.refl _ _⟩
  by_cases hz1 : (a0.length : Int) < 1000
  · go_enter Try.func7, Try.ntmps7
    go_wp2_with fail
    refine (all_any A0 _ c0 3 a0 [23, 24, 29] _ (by omega) (by decide) (by exact HS.out.below ((Below.refl _ _).alloc (Nat.le_refl _) _)) (by exact sl_new w _ _ _)).mono ?_
    rintro e w1 ⟨rfl, hb1⟩
    have HB1 := Lib.hid (show Below w.heap.size w w1 from ((Below.refl _ _).alloc (Nat.le_refl _) _).trans (hb1.mono (by simp)))
    clear hb1
    cases allB a0 [23, 24, 29] with
    | false =>
      go_wp2
      go_ret
      exact ⟨rfl, HB1.out⟩
    | true =>
      go_wp2_with fail
      refine (write_any _ _ _ _ _ _ _ _ _ _ _ _ A0 c0 a0 w1 (by omega) (HS.out.below HB1.out) HW.out).mono ?_
      rintro e w2 ⟨rfl, hb2⟩
      have HB2 := Lib.hid (HB1.out.trans (hb2.mono HB1.out.size))
      clear hb2
      go_wp2_with fail
      refine (nums_any A0 c0 a0 2 w2 (by omega) (HS.out.below HB2.out) HW.out (by decide) (by decide)).mono ?_
      rintro e w3 ⟨rfl, hb3⟩
      have HB3 := Lib.hid (HB2.out.trans (hb3.mono HB2.out.size))
      clear hb3
      go_wp2_with fail
      refine (vec_any (numsL a0 2) 2 w3 (by rw [numsL_length]; omega) (by decide) (by decide)).mono ?_
      rintro e w4 ⟨rfl, hb4⟩
      have HB4 := Lib.hid (HB3.out.trans (hb4.mono HB3.out.size))
      clear hb4
      go_wp2_with fail
      refine (framedExt_any 10 (vecL (numsL a0 2) 2) w4 (by decide) (by decide) (by rw [vecL_length, numsL_length]; omega)).mono ?_
      rintro e w5 ⟨rfl, hb5⟩
      have HB5 := Lib.hid (HB4.out.trans (hb5.mono HB4.out.size))
      clear hb5
      have HD := Lib.hid (due a0 (by omega))
      go_wp2
      go_ret
      exact ⟨ret_bool (by rw [HD.out]; simp), HB5.out⟩
  · go_enter Try.func7, Try.ntmps7
    go_wp2
    go_ret
    exact ⟨rfl, Below.refl _ _⟩
set_option maxRecDepth 100000 in
theorem lifted (os : Os) (started : os.Started) (H : Type) (enc : TypeId × Value → H) :
    ReturnsInHanded {} Try.checked os 7 .any (Rows.fnGroupsWriteSpec.pre6 enc Try.prog Try.f7 Rows.fnGroupsWriteRow.domain false) (Rows.fnGroupsWriteSpec.post enc Try.prog Try.f7 false true false false) := by
  refine returnsInHanded_of_change (C := Try.checked) own started (by kernel_rfl) Try.func7
    (ChangeSpec.witness6 (enc := enc) (C := Try.checked) false ⟨#[], #[.slice none 0 0], []⟩ 8 (by kernel_rfl) (by kernel_rfl) (by kernel_rfl) (by kernel_rfl)) ?_
  intro W base args ds gs before hval0 hW hcnd hreach
  have hval : ∀ (j : Nat) t v, Try.f7.params[j]? = some t → args[j]? = some v → Value.okWide Try.prog W .any base t v := hval0
  have hW' := hW
  obtain ⟨p, q, hA0, hV, rfl, hfz, hnd⟩ := hW
  have hA : DataW.TrodAll enc Try.prog W 0 (fun _ => true) true Try.f7.params.toList args.toList ds p := hA0
  rw [Try.params7] at hA hval
  obtain ⟨v0, vs0, d0, ds0, p0, q0, hargs, rfl, rfl, h0, r0⟩ := trodAll_cons hA
  obtain ⟨rfl, rfl, rfl⟩ := trodAll_nil r0
  obtain rfl : args = #[v0] := by cases args; simp_all
  obtain ⟨rfl, rfl⟩ := trodVars_none hV
  obtain ⟨A0, c0, a0, rfl, hl0, hm0, hs0, w0⟩ := open_ints_sl Try.underlying24 Try.underlying25 (by kernel_rfl) (hval 0 24 v0 rfl rfl) h0
  clear hA0 hval0
  refine (walk A0 c0 a0 W hl0 hm0 hs0 w0).mono fun e W' ⟨he, hb⟩ => ?_
  subst he
  exact ⟨_, rfl, law_post laidOut (by kernel_rfl) rfl Try.underlying4 rfl hW' rfl rfl rfl hb⟩

theorem over : Rows.fnGroupsWriteRow.holds Try.pinned (OpenSpec.ofChange Rows.fnGroupsWriteSpec) :=
  OpenClaim.holds_of_wide 7 Try.f7 rfl rfl rfl rfl rfl rfl rfl ⟨rfl, rfl, rfl, rfl, rfl⟩ rfl rfl rfl rfl rfl (by kernel_rfl) Try.func7 (by kernel_rfl)
    (of_decide_eq_true (by kernel_rfl)) (by unfold Func.isWrapper; first | (rw [if_pos (by decide +kernel)]; kernel_rfl) | (rw [if_neg (by decide +kernel)]; exact ⟨rfl, rfl⟩))
    (fun os started H enc _ => lifted os started H enc)

/-- THE STATEMENT -/
theorem proved : Rows.FnGroupsWriteSaid := over
#print axioms proved

end Go.Proofs.Ytlofkkmonkdjjaa.fnGroupsWrite
