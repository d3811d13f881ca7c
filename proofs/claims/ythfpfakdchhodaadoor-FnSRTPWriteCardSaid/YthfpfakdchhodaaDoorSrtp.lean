/- FnSRTPWrite: for every list of profiles and every identifier the law returns true. -/
import Derived.Test.YthfpfakdchhodaaDoorDoor
import Derived.Test.YthfpfakdchhodaaDoorPut
namespace Go.Proofs.YthfpfakdchhodaaDoor.fnSRTPWrite
open Go.ChangeShapes Go.WideShapes Go.ChangeAt Go.RowKit Go.Proofs.YthfpfakdchhodaaDoor
open Go.ChangeMaps (open_string shut_string)
set_option linter.unusedVariables false

theorem type_any (x y : Value) (w : World) : Calls Tryd.prog 91 #[.agg #[x, y]] w fun e w' => e = .returned (.int .u16 14) ∧ w.alloc (.cells #[x, y] 172) = w' := by
  go_enter Tryd.func91, Tryd.ntmps91
  go_wp2
  go_ret
  exact ⟨rfl, rfl⟩
theorem elPr : Elem Tryd.prog 170 173 1 2 := Elem.of Tryd.underlying170 (z := .int .u16 0) (by kernel_rfl) rfl (by decide)
theorem ext3 {f0 f1 f2 f3 f4 f5 f6 f7 f8 f9 f10 f11 f12 : Value} {w w1 : World} (hb1 : Below (w.heap.size + 1) (w.alloc (.cells #[f0, f1, f2, f3, f4, f5, f6, f7, f8, f9, f10, f11, f12] 40)) w1) : w1.cell? ⟨w.heap.size, 3, none⟩ = some f3 :=
  ((Blk.new w 40 [f0, f1, f2, f3, f4, f5, f6, f7, f8, f9, f10, f11, f12]).below hb1 (Nat.lt_succ_self _)).cell 3
set_option maxRecDepth 100000 in
theorem make_any (f0 f2 f4 f5 f6 f7 f8 f9 f10 f11 f12 : Value) (A : Option Addr) (c : Nat) (l : List Int) (m : List UInt8) (w : World) (hn : l.length ≤ 1000) (hs : Sl w A (l.map (Value.int .u16))) :
    Calls Tryd.prog 48 #[.agg #[f0, .string (S m), f2, .slice A l.length c, f4, f5, f6, f7, f8, f9, f10, f11, f12]] w fun e w' => ∃ g A' c' h cm, e = .returned (.pointer (some ⟨g, 0, none⟩)) ∧ Blk w' g 172 [.slice A' l.length c', .slice (some ⟨h, 0, none⟩) m.length cm] ∧ Sl w' A' (l.map (Value.int .u16)) ∧ Sl w' (some ⟨h, 0, none⟩) (cells8 m) ∧ Below w.heap.size w w' := by
  have HS := hide hs
  clear hs
  go_enter Tryd.func48, Tryd.ntmps48
  go_wp2_with (refine wpList_bytes (o := ⟨some 8, _, _, _, _, _⟩) rfl _ rfl Tryd.underlying9 Tryd.underlying48 Tryd.underlying5 rfl (w.heap.size + 1) (by simp) ?_; intro cap w1 hcap hs1 hb1 hlt1 hx1; have HCAP := hide hcap; have HS1 := hide hs1; have HB1 := hide hb1; have HLT1 := hide hlt1; have k3 := ext3 hb1; have hlt1' : w.heap.size < w1.heap.size := (by omega); clear hcap hs1 hb1 hlt1 hx1)
  go_loopw [5, 14] (fun _ i wr => ∃ k : Nat, k ≤ l.length ∧ i = .int .i64 k ∧ ∃ v, Blk wr w1.heap.size 172 [v, .slice (some ⟨w.heap.size + 1, 0, none⟩) m.length cap] ∧ wr.ownsRow (w1.heap.size + 1) 173 1 v k ((l.take k).map (Value.int .u16)) ∧ Below w1.heap.size w1 wr) (fun _ i _ => l.length - (intOf i).toNat)
  case atStart => exact ⟨0, by omega, rfl, _, Blk.new w1 _ [_, _], World.ownsRow_nil _ _ _ _, (Below.refl _ _).alloc (Nat.le_refl _) _⟩
  case round =>
    obtain ⟨k, hk, rfl, v, hblk, hown, hb⟩ := hrel
    have HK := Lib.hid hblk
    have HO := Lib.hid hown
    have HB := Lib.hid hb
    have HBw := Lib.hid (show Below w.heap.size w wr from (((Below.refl _ _).alloc (Nat.le_refl _) _).trans (HB1.out.mono (by omega))).trans (hb.mono (by omega)))
    have c0 := hblk.cell 0
    simp only [List.getElem?_cons_zero] at c0
    have hlt0 := hblk.lt
    clear hblk hown hb
    by_cases hlt : k < l.length
    · obtain ⟨x, hx⟩ : ∃ x, l[k]? = some x := ⟨_, List.getElem?_eq_getElem hlt⟩
      obtain ⟨b, off, rfl, hc⟩ := (HS.out.below HBw.out) k (.int .u16 x) (by rw [List.getElem?_map, hx]; rfl)
      have HX := Lib.hid hx
      clear hx
      go_wp2_with (at_builtin; refine wpList_append_lit elPr rfl _ _ rfl rfl HO.out rfl rfl (by simp [Value.oneCell']) (by omega) (by unfold maxLen; omega) (by omega) ?_; intro v' w' hown' hb' hat'; obtain ⟨g', c', rfl, hc', hm', hge', hgl'⟩ := own_form hown' (by omega); have HO' := Lib.hid hown'; have HB' := Lib.hid hb'; have HK' := Lib.hid (HK.out.below hb' (by omega)); have f' := HK'.out.frozen 0; have c0' := HK'.out.cell 0; have hlt' := HK'.out.lt; clear hown' hb' hat')
      go_roundw
      case rel =>
        refine ⟨k + 1, by omega, by go_num, .slice (some ⟨g', 0, none⟩) (k + 1) c', HK'.out.set_ 0 _, ?_, ?_⟩
        · rw [← take_map_succ _ l k x HX.out]
          exact own_far HO'.out (Nat.lt_succ_self _) _
        · exact below_set (HB.out.trans (HB'.out.mono (Nat.le_succ _))) (Nat.le_refl _) _
      case measure => simp [intOf]; omega
    · obtain rfl : k = l.length := by omega
      rw [List.take_length] at HO
      have HOo := HO.out
      obtain ⟨A', c', rfl, hs', _, _⟩ := own_sl HOo
      go_wp2
      go_ret
      exact ⟨w1.heap.size, A', c', w.heap.size + 1, cap, rfl, HK.out, hs', HS1.out.below HB.out, HBw.out⟩

/-- The six bytes ahead of the profiles. -/
def head (l : List Int) (m : List UInt8) : List UInt8 := bigL 2 14 ++ bigL 2 (3 + l.length * 2 + m.length) ++ bigL 2 (l.length * 2)
theorem head_length (l : List Int) (m : List UInt8) : (head l m).length = 6 := by simp [head, bigL_length]
theorem two_cells {B : Nat} {w w' : World} {a b : Addr} {x y : Value} (hb : Below B w w') (h : (w.cell? a = some x ∧ w.cell? b = some y) ∧ a.block < B ∧ b.block < B) : w'.cell? a = some x ∧ w'.cell? b = some y :=
  ⟨(hb.cell h.2.1).trans h.1.1, (hb.cell h.2.2).trans h.1.2⟩
/-- The bytes. -/
def wire (l : List Int) (m : List UInt8) : List UInt8 := extL 14 (vecL (numsL l 2) 2 ++ vecL m 1)
theorem wire_eq (l : List Int) (m : List UInt8) : wire l m = head l m ++ numsL l 2 ++ bigL 1 m.length ++ m := by
  have h : 2 + (l.length * 2 + (1 + m.length)) = 3 + l.length * 2 + m.length := by omega
  simp only [wire, extL, vecL, head, numsL_length, bigL_length, List.length_append, List.append_assoc, Nat.add_assoc] at h ⊢
  rw [h]
set_option maxHeartbeats 2000000 in
set_option maxRecDepth 100000 in
theorem marshal_any (p : Nat) (A : Option Addr) (c q cm : Nat) (l : List Int) (m : List UInt8) (w : World) (hn : l.length ≤ 1000) (hm : m.length ≤ 255) (hp : Blk w p 172 [.slice A l.length c, .slice (some ⟨q, 0, none⟩) m.length cm]) (hs : Sl w A (l.map (Value.int .u16))) (hsm : Sl w (some ⟨q, 0, none⟩) (cells8 m)) (hw : ∀ n ∈ l, (Lit.int .u16 n).wf = true) :
    Calls Tryd.prog 49 #[.pointer (some ⟨p, 0, none⟩)] w fun e w' => ∃ g c', e = .returned (.tuple #[.slice (some ⟨g, 0, none⟩) (wire l m).length c', .nilIface]) ∧ Sl w' (some ⟨g, 0, none⟩) (cells8 (wire l m)) ∧ Below w.heap.size w w' := by
  have HS := hide hs
  have HM := hide hsm
  have HW := hide hw
  have HP := hide hp
  have c0 := hp.cell 0
  have c1 := hp.cell 1
  simp only [List.getElem?_cons_zero, List.getElem?_cons_succ] at c0 c1
  have hplt := hp.lt
  clear hs hw hp hsm
  have hW0 : IntKind.i64.wrap ((l.length : Int) * 2) = (l.length : Int) * 2 := by rw [IntKind.wrap_i64]; omega
  have hW1 : IntKind.i64.wrap (2 + (l.length : Int) * 2) = 2 + (l.length : Int) * 2 := by rw [IntKind.wrap_i64]; omega
  have hW2 : IntKind.i64.wrap (2 + (l.length : Int) * 2 + 1) = 2 + (l.length : Int) * 2 + 1 := by rw [IntKind.wrap_i64]; omega
  have hW3 : IntKind.i64.wrap (2 + (l.length : Int) * 2 + 1 + (m.length : Int)) = 2 + (l.length : Int) * 2 + 1 + (m.length : Int) := by rw [IntKind.wrap_i64]; omega
  have hW4 : IntKind.i64.wrap (4 + (2 + (l.length : Int) * 2 + 1 + (m.length : Int))) = 4 + (2 + (l.length : Int) * 2 + 1 + (m.length : Int)) := by rw [IntKind.wrap_i64]; omega
  have hn2 : ¬ 7 + l.length * 2 + m.length = 2 := by omega
  have hn4 : ¬ 7 + l.length * 2 + m.length = 4 := by omega
  have hi2 : (2 : Int) ≤ 7 + (l.length : Int) * 2 + (m.length : Int) := by omega
  have hi4 : (4 : Int) ≤ 7 + (l.length : Int) * 2 + (m.length : Int) := by omega
  have hbig : ¬ (65535 : Int) < 2 + (l.length : Int) * 2 + 1 + (m.length : Int) := by omega
  have hmk := fun W : World => make_bytes_at (7 + l.length * 2 + m.length) (4 + (2 + (l.length : Int) * 2 + 1 + (m.length : Int))) (by omega) (by omega) W .i64 .i64
  go_enter Tryd.func49, Tryd.ntmps49
  go_wp2
  go_quiet (fail)
  go_wp2
  have HK0 := Lib.hid (show Blk ((w.drewN nq).alloc (.cells (zeros (7 + l.length * 2 + m.length)).toArray 5)) w.heap.size 5 (part [] (5 + l.length * 2 + m.length + 2)) by rw [← part_zero, show 5 + l.length * 2 + m.length + 2 = 7 + l.length * 2 + m.length by omega]; exact Blk.new_at w.heap.size rfl _ _)
  go_region_held3 (fun w' => w'.cell? ⟨p, 0, none⟩ = some (.slice A l.length c) ∧ w'.cell? ⟨p, 1, none⟩ = some (.slice (some ⟨q, 0, none⟩) m.length cm)) (first | go_keep | exact two_cells hb1 ⟨by assumption, hplt, hplt⟩) (first | (go_at_call 91; refine (type_any _ _ _).mono ?_; rintro e w' ⟨rfl, rfl⟩) | (go_at_call 90; refine (put16_blk w.heap.size w.heap.size 0 _ _ _ _ 14 _ rfl (by decide) (by decide) (by omega) (by exact (HK0.out.alloc _).drew) (Nat.le_refl _) (by rw [part_length]; simp)).mono ?_; rintro e w1 ⟨rfl, hk1, hg1, hb1⟩))
  have hh1 : w1.cell? ⟨p, 0, none⟩ = some (.slice A l.length c) ∧ w1.cell? ⟨p, 1, none⟩ = some (.slice (some ⟨q, 0, none⟩) m.length cm) := by assumption
  have HB1 := Lib.hid (show Below w.heap.size w w1 from ((((below_drewN (Below.refl _ _) _).alloc (by simp [World.drewN]) _).alloc (by simp [World.drewN]) _).drew).trans hb1)
  have HK1 := Lib.hid (show Blk w1 w.heap.size 5 (part (bigL 2 14) (3 + l.length * 2 + m.length + 2)) by
    have k := hk1
    rw [part_put16 [] _ 0 rfl 14 (by decide) (by decide)] at k
    rw [show 3 + l.length * 2 + m.length + 2 = 5 + l.length * 2 + m.length by omega]
    exact k)
  clear hk1 hg1 hb1 HK0 c0 c1 hW0 hW1 hW2 hW3 hW4 hmk
  obtain ⟨c0, c1⟩ := hh1
  go_wp2
  have hV1 : IntKind.u16.wrap (2 + (l.length : Int) * 2 + 1 + (m.length : Int)) = 2 + (l.length : Int) * 2 + 1 + (m.length : Int) := by rw [IntKind.wrap_u16]; omega
  go_region_held3 (fun w' => w'.cell? ⟨p, 0, none⟩ = some (.slice A l.length c) ∧ w'.cell? ⟨p, 1, none⟩ = some (.slice (some ⟨q, 0, none⟩) m.length cm)) (first | go_keep | exact two_cells hb2 ⟨by assumption, hplt, hplt⟩) (first | (go_at_call 90; refine (put16_blk w.heap.size w.heap.size 2 _ _ _ _ (2 + l.length * 2 + 1 + m.length) _ rfl (by omega) (by omega) (by omega) (by exact HK1.out.drew) (Nat.le_refl _) (by rw [part_length, bigL_length]; omega)).mono ?_; rintro e w2 ⟨rfl, hk2, hg2, hb2⟩))
  have hh2 : w2.cell? ⟨p, 0, none⟩ = some (.slice A l.length c) ∧ w2.cell? ⟨p, 1, none⟩ = some (.slice (some ⟨q, 0, none⟩) m.length cm) := by assumption
  have HB2 := Lib.hid (HB1.out.drew.trans hb2)
  have HK2 := Lib.hid (show Blk w2 w.heap.size 5 (part (bigL 2 14 ++ bigL 2 (3 + l.length * 2 + m.length)) (1 + l.length * 2 + m.length + 2)) by
    have k := hk2
    rw [part_put16 (bigL 2 14) _ 2 rfl _ (by omega) (by omega), show (2 + (l.length : Int) * 2 + 1 + (m.length : Int)).toNat = 3 + l.length * 2 + m.length by omega] at k
    rw [show 1 + l.length * 2 + m.length + 2 = 3 + l.length * 2 + m.length by omega]
    exact k)
  clear hk2 hg2 hb2 HK1 HB1 c0 c1 hV1
  obtain ⟨c0, c1⟩ := hh2
  go_wp2
  have hV0 : IntKind.i64.wrap ((l.length : Int) * 2) = (l.length : Int) * 2 := by rw [IntKind.wrap_i64]; omega
  have hV1 : IntKind.u16.wrap ((l.length : Int) * 2) = (l.length : Int) * 2 := by rw [IntKind.wrap_u16]; omega
  go_region_held3 (fun w' => w'.cell? ⟨p, 0, none⟩ = some (.slice A l.length c) ∧ w'.cell? ⟨p, 1, none⟩ = some (.slice (some ⟨q, 0, none⟩) m.length cm)) (first | go_keep | exact two_cells hb3 ⟨by assumption, hplt, hplt⟩) (first | (go_at_call 90; refine (put16_blk w.heap.size w.heap.size 4 _ _ _ _ (l.length * 2) _ rfl (by omega) (by omega) (by omega) (by exact HK2.out.drew) (Nat.le_refl _) (by rw [part_length, List.length_append, bigL_length, bigL_length]; omega)).mono ?_; rintro e w3 ⟨rfl, hk3, hg3, hb3⟩))
  have hh3 : w3.cell? ⟨p, 0, none⟩ = some (.slice A l.length c) ∧ w3.cell? ⟨p, 1, none⟩ = some (.slice (some ⟨q, 0, none⟩) m.length cm) := by assumption
  have HB3 := Lib.hid (HB2.out.drew.trans hb3)
  have HK3 := Lib.hid (show Blk w3 w.heap.size 5 (part (head l m) (l.length * 2 + m.length + 1)) by
    have k := hk3
    rw [part_put16 (bigL 2 14 ++ bigL 2 (3 + l.length * 2 + m.length)) _ 4 (by simp [bigL_length]) _ (by omega) (by omega), show ((l.length : Int) * 2).toNat = l.length * 2 by omega] at k
    rw [show l.length * 2 + m.length + 1 = 1 + l.length * 2 + m.length by omega]
    exact k)
  clear hk3 hg3 hb3 HK2 HB2 c0 c1 hV1 hV0
  obtain ⟨c0, c1⟩ := hh3
  go_wp2
  obtain ⟨M, hM⟩ : ∃ M, M = 7 + l.length * 2 + m.length := ⟨_, rfl⟩
  rw [← hM]
  have HM7 := Lib.hid hM
  clear hM hn2 hn4 hi2 hi4 hbig
  go_loopw [6, 8, 65] (fun o _ i wr => ∃ k : Nat, k ≤ l.length ∧ i = .int .i64 k ∧ o = .int .i64 ((6 + 2 * k : Nat) : Int) ∧ Blk wr w.heap.size 5 (part (head l m ++ numsL (l.take k) 2) ((l.length - k) * 2 + m.length + 1)) ∧ Below w.heap.size w wr) (fun _ _ i _ => l.length - (intOf i).toNat)
  case atStart => exact ⟨0, by omega, rfl, rfl, by simpa [numsL] using HK3.out, HB3.out⟩
  case round =>
    obtain ⟨k, hk, rfl, rfl, hblk, hb'⟩ := hrel
    have HB := Lib.hid hb'
    have HK := Lib.hid hblk
    clear hb' hblk HB3 HK3 c0 c1
    obtain ⟨N, hN⟩ : ∃ N, N = 6 + 2 * k := ⟨_, rfl⟩
    rw [← hN]
    have hNs : N ≤ 2006 := by omega
    have HN := Lib.hid hN
    clear hN
    by_cases hlt : k < l.length
    · obtain ⟨x, hx⟩ : ∃ x, l[k]? = some x := ⟨_, List.getElem?_eq_getElem hlt⟩
      obtain ⟨bb, off, rfl, hc⟩ := (HS.out.below HB.out) k (.int .u16 x) (by rw [List.getElem?_map, hx]; rfl)
      obtain ⟨hx1, hx2⟩ := wf_u16 (HW.out x (List.mem_of_getElem? hx))
      have HX := Lib.hid hx
      clear hx
      have hNM : N + 2 ≤ M := by have := HN.out; have := HM7.out; omega
      have hlo : (0 : Int) ≤ (N : Int) := by omega
      have hhi : (N : Int) ≤ (M : Int) := by omega
      have hne : ¬ M = N := by omega
      go_wp2
      go_region_held3 (fun w' => True) (first | trivial | go_keep) (first | (go_at_call 90; refine (put16_blk w.heap.size w.heap.size N _ _ _ x x _ rfl hx1 hx2 (by omega) (by exact HK.out.drew) (Nat.le_refl _) (by have := HN.out; have := HM7.out; rw [part_length, List.length_append, head_length, numsL_length, List.length_take]; omega)).mono ?_; rintro e w5 ⟨rfl, hk5, hg5, hb5⟩))
      have HB5 := Lib.hid (HB.out.drew.trans hb5)
      have HK5 := Lib.hid (show Blk w5 w.heap.size 5 (part (head l m ++ numsL (l.take (k + 1)) 2) ((l.length - (k + 1)) * 2 + m.length + 1)) by
        have k5 := hk5
        rw [show (l.length - k) * 2 + m.length + 1 = ((l.length - (k + 1)) * 2 + m.length + 1) + 2 by omega, part_put16 _ _ N (by have := HN.out; rw [List.length_append, head_length, numsL_length, List.length_take]; omega) x hx1 hx2, List.append_assoc, show numsL (l.take k) 2 ++ bigL 2 x.toNat = numsL (l.take (k + 1)) 2 from take_flat_succ _ l k x HX.out] at k5
        exact k5)
      clear hk5 hg5 hb5 HK HB
      go_wp2
      go_roundw
      case rel => exact ⟨k + 1, by omega, by go_num, by have := HN.out; go_num, HK5.out, HB5.out⟩
      case measure => simp [intOf]; omega
    · obtain rfl : k = l.length := by omega
      have HKl := HK.out
      rw [List.take_length, Nat.sub_self, Nat.zero_mul, Nat.zero_add] at HKl
      have hlen : (head l m ++ numsL l 2).length = N := by have := HN.out; rw [List.length_append, head_length, numsL_length]; omega
      have kN : wr.cell? ⟨w.heap.size, N, none⟩ = some (.int .u8 0) := by
        rw [HKl.cell N, part, List.getElem?_append_right (by rw [cells8_length]; omega), cells8_length, hlen, Nat.sub_self]
        rfl
      have fN := HKl.frozen N
      have c1 := (HP.out.below HB.out hplt).cell 1
      simp only [List.getElem?_cons_zero, List.getElem?_cons_succ] at c1
      have K1 := Lib.hid (HKl.set_ N (.int .u8 (m.length : Int)))
      have hlt' := HKl.lt
      have hNM : N + 1 + m.length = M := by have := HN.out; have := HM7.out; omega
      have hlo : (0 : Int) ≤ (N : Int) := by omega
      have hhi : (N : Int) < (M : Int) := by omega
      have hw8 : IntKind.u8.wrap (m.length : Int) = m.length := by rw [IntKind.wrap_u8]; omega
      have hgp : w.heap.size ≠ p := by omega
      clear HKl HK
      have HSrc : ∀ j v, (cells8 m)[j]? = some v → (wr.setCell ⟨w.heap.size, N, none⟩ (.int .u8 (m.length : Int))).cell? ((⟨q, 0, none⟩ : Addr).add j) = some v := by
        intro j v hj
        obtain ⟨b', o', e, hc⟩ := HM.out j v hj
        injection e with e; injection e with e1 e2; subst e1 e2
        have hql : q < w.heap.size := World.block_lt_of_cell? w _ hc
        have hadd : (⟨q, 0, none⟩ : Addr).add j = ⟨q, 0 + j, none⟩ := by unfold Addr.add; split <;> simp_all
        rw [hadd, World.cell?_setCell_far _ _ _ _ (by show w.heap.size ≠ q; omega)]
        exact (HB.out.cell (p := ⟨q, 0 + j, none⟩) hql).trans hc
      have HSRC := Lib.hid HSrc
      have hlo1 : (0 : Int) ≤ (N : Int) + 1 := by omega
      have hhi1 : (N : Int) + 1 ≤ (M : Int) := by omega
      have hw1 : IntKind.i64.wrap ((N : Int) + 1) = ((N + 1 : Nat) : Int) := by rw [IntKind.wrap_i64]; omega
      have hlo2 : (0 : Int) ≤ ((N + 1 : Nat) : Int) := by omega
      have hhi2 : ((N + 1 : Nat) : Int) ≤ (M : Int) := by omega
      clear HSrc
      go_wp2
      go_region_law (refine step_copy_splice rfl (.tmp 90) (.tmp 94) 48 48 rfl 5 Tryd.underlying48 (by kernel_rfl) _ _ _ _ _ _ rfl rfl w.heap.size (N + 1) _ 5 K1.out.drew (cells8 m) (by rw [cells8_length]; show m.length = min _ _; omega) (by intro hp; rw [cells8_length] at hp; first | (exfalso; omega) | exact ⟨if_neg (by omega), _, rfl, HSRC.out⟩) (by rw [List.length_set, part_length, cells8_length, hlen]; omega) (cells8_one m) w.heap.size w (below_set HB.out (Nat.le_refl _) _).drew (Nat.le_refl _) ?_; intro w9 hg9 hb9)
      all_goals
        have HK9 := hg9.out
        rw [part_put8 _ m.length N hlen.symm m.length (by omega), part_copy _ m 0 m.length (N + 1) (by rw [List.length_append, hlen, bigL_length]) rfl, part_full, ← wire_eq] at HK9
        have hwl : (wire l m).length = M := by rw [wire_eq, List.length_append, List.length_append, hlen, bigL_length]; omega
        have HWL := Lib.hid hwl
        have HK := Lib.hid (show Blk w9 w.heap.size 5 (cells8 (wire l m)) from HK9)
        clear hg9 HK9 K1 kN fN hwl HN
        go_wp2
        all_goals
          go_ret2
          exact ⟨w.heap.size, ⟨M, by rw [HWL.out]; first | rfl | (rw [show M = N + 1 by assumption]; rfl)⟩, HK.out.sl (fun j v hj => by rw [Nat.zero_add]; exact hj), hb9⟩

set_option maxRecDepth 100000 in
theorem write_any (f0 f2 f4 f5 f6 f7 f8 f9 f10 f11 f12 : Value) (A : Option Addr) (c : Nat) (l : List Int) (m : List UInt8) (w : World) (hn : l.length ≤ 1000) (hm : m.length ≤ 255) (hs : Sl w A (l.map (Value.int .u16))) (hw : ∀ n ∈ l, (Lit.int .u16 n).wf = true) :
    Calls Tryd.prog 17 #[.agg #[f0, .string (S m), f2, .slice A l.length c, f4, f5, f6, f7, f8, f9, f10, f11, f12]] w fun e w' => e = .returned (.tuple #[.string (S (wire l m)), .bool true]) ∧ Below w.heap.size w w' := by
  have HS := hide hs
  have HW := hide hw
  clear hs hw
  go_enter Tryd.func17, Tryd.ntmps17
  go_wp2_with fail
  refine (make_any _ _ _ _ _ _ _ _ _ _ _ A c l m _ hn (by exact HS.out.below ((Below.refl _ _).alloc (Nat.le_refl _) _))).mono ?_
  rintro e w1 ⟨g, A', c', q, cm, rfl, hk, hs', hsm, hb⟩
  have HK := hide hk
  have HS' := hide hs'
  have HM := hide hsm
  have HB := Lib.hid (show Below w.heap.size w w1 from ((Below.refl _ _).alloc (Nat.le_refl _) _).trans (hb.mono (by simp)))
  clear hk hs' hsm hb
  go_wp2_with fail
  refine (marshal_any g A' c' q cm l m w1 hn hm HK.out HS'.out HM.out HW.out).mono ?_
  rintro e w2 ⟨g2, c2, rfl, hs2, hb2⟩
  have HS2 := hide hs2
  have HB2 := Lib.hid (HB.out.trans (hb2.mono HB.out.size))
  clear hs2 hb2
  go_wp2_with fail
  refine (text_ok (some ⟨g2, 0, none⟩) c2 _ (wire l m) w2 rfl HS2.out).mono ?_
  rintro e w3 ⟨rfl, rfl⟩
  go_wp2
  go_ret2
  exact ⟨rfl, HB2.out⟩

set_option maxRecDepth 100000 in
theorem walk (A0 : Option Addr) (c0 : Nat) (a0 : List Int) (a1 : ByteArray) (w1 : a1.size ≤ maxLen) (w : World) (hl0 : a0.length ≤ c0) (hm0 : c0 ≤ maxLen) (hs0 : Sl w A0 (a0.map (Value.int .u16))) (w0 : ∀ n ∈ a0, (Lit.int .u16 n).wf = true) (hE5 : ErrAt 205 5 w) (hE6 : ErrAt 205 6 w) :
    Calls Tryd.prog 4 #[.slice A0 a0.length c0, .string a1] w fun e w' => e = .returned (.bool true) ∧ Below w.heap.size w w' := by
  obtain ⟨m, rfl⟩ := exS a1
  have hS := S_size
  have hA := S_append
  have hV := vecL_length
  have hNL := numsL_length
  have hBL := bigL_length
  have HS := hide hs0
  have HW := hide w0
  clear hs0 w0 w1 hE5 hE6
  by_cases hz0 : 2147483647 < (a0.length : Int)
  · go_enter Tryd.func4, Tryd.ntmps4
    go_wp2
    go_ret
    exact ⟨rfl, Below.refl _ _⟩
  by_cases hz2 : 2147483647 < (m.length : Int)
  · go_enter Tryd.func4, Tryd.ntmps4
    go_wp2
    go_ret
    exact ⟨rfl, Below.refl _ _⟩
  by_cases hz1 : (a0.length : Int) < 1000
  · by_cases hz3 : (m.length : Int) < 256
    · go_enter Tryd.func4, Tryd.ntmps4
      go_wp2_with fail
      refine (all_any A0 _ c0 8 a0 [1, 2, 3, 4, 5, 6, 7, 8] _ (by omega) (by decide) (by exact HS.out.below ((Below.refl _ _).alloc (Nat.le_refl _) _)) (by exact sl_new w _ _ _)).mono ?_
      rintro e w1 ⟨rfl, hb1⟩
      have HB1 := Lib.hid (show Below w.heap.size w w1 from ((Below.refl _ _).alloc (Nat.le_refl _) _).trans (hb1.mono (by simp)))
      clear hb1
      cases allB a0 [1, 2, 3, 4, 5, 6, 7, 8] with
      | false =>
        go_wp2
        go_ret
        exact ⟨rfl, HB1.out⟩
      | true =>
        go_wp2_with fail
        refine (write_any _ _ _ _ _ _ _ _ _ _ _ A0 c0 a0 m w1 (by omega) (by omega) (HS.out.below HB1.out) HW.out).mono ?_
        rintro e w2 ⟨rfl, hb2⟩
        have HB2 := Lib.hid (HB1.out.trans (hb2.mono HB1.out.size))
        clear hb2
        go_wp2_with fail
        refine (nums_any A0 c0 a0 2 w2 (by omega) (HS.out.below HB2.out) HW.out (by decide) (by decide)).mono ?_
        rintro e w3 ⟨rfl, hb3⟩
        have HB3 := Lib.hid (HB2.out.trans (hb3.mono HB2.out.size))
        clear hb3
        go_wp2_with fail
        refine (vec_any (numsL a0 2) 2 w3 (by rw [numsL_length]; omega) (by decide) (by decide)).mono ?_
        rintro e w4 ⟨rfl, hb4⟩
        have HB4 := Lib.hid (HB3.out.trans (hb4.mono HB3.out.size))
        clear hb4
        go_wp2_with fail
        refine (vec_any m 1 w4 (by omega) (by decide) (by decide)).mono ?_
        rintro e w4' ⟨rfl, hb4'⟩
        have HB4' := Lib.hid (HB4.out.trans (hb4'.mono HB4.out.size))
        clear hb4'
        go_wp2_with fail
        refine (framedExt_any 14 (vecL (numsL a0 2) 2 ++ vecL m 1) w4' (by decide) (by decide) (by rw [List.length_append, vecL_length, vecL_length, numsL_length]; omega)).mono ?_
        rintro e w5 ⟨rfl, hb5⟩
        have HB5 := Lib.hid (HB4'.out.trans (hb5.mono HB4'.out.size))
        clear hb5
        go_wp2
        go_ret
        exact ⟨ret_bool (by simp [wire]), HB5.out⟩
    · go_enter Tryd.func4, Tryd.ntmps4
      go_wp2
      go_ret
      exact ⟨rfl, Below.refl _ _⟩
  · go_enter Tryd.func4, Tryd.ntmps4
    go_wp2
    go_ret
    exact ⟨rfl, Below.refl _ _⟩
abbrev laidL : List (String × DataW Unit) := [("pub-convoy/pub/dtls/pkg/protocol/extension.errMasterKeyIdentifierTooLarge", Rows.laid_pub_convoy_pub_dtls_pkg_protocol_extension_errMasterKeyIdentifierTooLarge), ("pub-convoy/pub/dtls/pkg/protocol/extension.errUseSRTPDataTooLarge", Rows.laid_pub_convoy_pub_dtls_pkg_protocol_extension_errUseSRTPDataTooLarge)]
theorem door_met (os : Os) (args : Array Value) : laidMetH Tryd.prog laidL ((World.doorLaid Tryd.prog 323 os).forCall (fun _ _ => 0) ⟨#[], args, []⟩).memory :=
  laidMetH_of_parts3 (fuel := 8) (laidMet_of_run' 8 (by kernel_rfl) (by kernel_rfl)) (by kernel_rfl) (by kernel_rfl)
theorem of_laid {W : World} (h : laidMetH Tryd.prog laidL W) : ErrAt 205 5 W ∧ ErrAt 205 6 W := by
  rw [MakeChecks.laidMetH_plain _ _ _ (by kernel_rfl)] at h
  have k0 := errAt_of_laid h (show Tryd.prog.globalNamed "pub-convoy/pub/dtls/pkg/protocol/extension.errMasterKeyIdentifierTooLarge" = some 5 by kernel_rfl) (by kernel_rfl)
  have h1 := h.tail
  have k1 := errAt_of_laid h1 (show Tryd.prog.globalNamed "pub-convoy/pub/dtls/pkg/protocol/extension.errUseSRTPDataTooLarge" = some 6 by kernel_rfl) (by kernel_rfl)
  exact ⟨k0, k1⟩
set_option maxRecDepth 100000 in
theorem lifted (os : Os) (started : os.Started) (H : Type) (enc : TypeId × Value → H) :
    ReturnsInHanded {} Tryd.checked os 4 .any (fun w args => (Rows.fnSRTPWriteSpec.pre enc Tryd.prog Tryd.f4 [] false w args ∧ laidMetH Tryd.prog laidL w) ∧ sizedMet enc Tryd.prog Tryd.f4 (OpenSpec.ofChange Rows.fnSRTPWriteSpec) false w args)
      (Rows.fnSRTPWriteSpec.post enc Tryd.prog Tryd.f4 false true false false) := by
  refine returnsInHanded_of_change_and (C := Tryd.checked) (X := fun w _ => laidMetH Tryd.prog laidL w) (fun _ _ _ hh h => h.of_heap hh) own started (by kernel_rfl) Tryd.func4
    (ChangeSpec.witness_shaped (enc := enc) (C := Tryd.checked) (os := os) (X := fun w _ => laidMetH Tryd.prog laidL w) false (World.doorLaid Tryd.prog 323 os) #[.slice none 0 0, .string ByteArray.empty] 8 rfl (World.shaped_of_RefB (by kernel_rfl) (by kernel_rfl)) (by kernel_rfl) (by kernel_rfl) (by kernel_rfl) (door_met os _)) ?_
  intro W base args ds gs before hval0 hW _ _ hL _
  obtain ⟨hE5, hE6⟩ := of_laid hL
  have hval : ∀ (j : Nat) t v, Tryd.f4.params[j]? = some t → args[j]? = some v → Value.okWide Tryd.prog W .any base t v := hval0
  have hW' := hW
  obtain ⟨p, q, hA0, hV, rfl, hfz, hnd⟩ := hW
  have hA : DataW.TrodAll enc Tryd.prog W 0 (fun _ => true) true Tryd.f4.params.toList args.toList ds p := hA0
  rw [Tryd.params4] at hA hval
  obtain ⟨v0, vs0, d0, ds0, p0, q0, hargs, rfl, rfl, h0, r0⟩ := trodAll_cons hA
  obtain ⟨v1, vs1, d1, ds1, p1, q1, rfl, rfl, rfl, h1, r1⟩ := trodAll_cons r0
  obtain ⟨rfl, rfl, rfl⟩ := trodAll_nil r1
  obtain rfl : args = #[v0, v1] := by cases args; simp_all
  obtain ⟨rfl, rfl⟩ := trodVars_none hV
  obtain ⟨A0, c0, a0, rfl, hl0, hm0, hs0, w0⟩ := open_ints_sl Tryd.underlying29 Tryd.underlying22 (by kernel_rfl) (hval 0 29 v0 rfl rfl) h0
  obtain ⟨a1, rfl, rfl, rfl, w1⟩ := open_string Tryd.underlying9 (hval 1 9 v1 rfl rfl) h1
  clear hA0 hval0
  refine (walk A0 c0 a0 a1 w1 W hl0 hm0 hs0 w0 hE5 hE6).mono fun e W' ⟨he, hb⟩ => ?_
  subst he
  exact ⟨_, rfl, law_post laidOut (by kernel_rfl) rfl Tryd.underlying4 rfl hW' rfl rfl rfl hb⟩

theorem over : Rows.fnSRTPWriteRow.holds Tryd.pinned (OpenSpec.ofChange Rows.fnSRTPWriteSpec) :=
  OpenClaim.holds_of_wide 4 Tryd.f4 rfl rfl rfl rfl rfl rfl rfl ⟨rfl, rfl, rfl, rfl, rfl⟩ rfl rfl rfl rfl rfl (by kernel_rfl) Tryd.func4 (by kernel_rfl)
    (of_decide_eq_true (by kernel_rfl)) (by unfold Func.isWrapper; first | (rw [if_pos (by decide +kernel)]; kernel_rfl) | (rw [if_neg (by decide +kernel)]; exact ⟨rfl, rfl⟩))
    (fun os started H enc _ => lifted os started H enc)

/-- THE STATEMENT: the tied card. -/
theorem proved : Rows.FnSRTPWriteCardSaid :=
  Claim7.holds_tied_plain_at .later [] [.sentinel, .sentinel] true (true, "20b3b98fcc8707e4b2223a6ae671195b166d92b4110cce829ed6e3bbef5fa288") false
    over (fun _ h => by cases h) (by kernel_rfl) (fun _ h => by cases h) fnSRTPWrite_row_tie rfl ⟨rfl, rfl⟩ (by kernel_rfl) rfl
    (fun f fn hf hfn => by
      obtain rfl : f = 4 := Option.some.inj ((show Tryd.prog.funcNamed "pub-convoy/laws.FnSRTPWrite" = some 4 by kernel_rfl).symm.trans hf) |>.symm
      obtain rfl : fn = Tryd.f4 := (Option.some.inj (Tryd.func4.symm.trans hfn)).symm
      exact ⟨by kernel_rfl, fun j t ht => by
        rw [Tryd.params4] at ht
        have hm : t ∈ [29, 9] := by simpa using Array.mem_of_getElem? ht
        have hall : ([29, 9].all fun u => !Tryd.prog.wantsStandIn u) = true := by kernel_rfl
        exact (show Tryd.prog.wantsStandIn t = false by simpa using List.all_eq_true.1 hall t hm)⟩)
    (by kernel_rfl)
#print axioms proved

end Go.Proofs.YthfpfakdchhodaaDoor.fnSRTPWrite
