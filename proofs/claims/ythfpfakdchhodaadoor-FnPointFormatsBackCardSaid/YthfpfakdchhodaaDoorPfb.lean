/- FnPointFormatsBack: for every number of point formats the law returns true. -/
import Derived.Test.YthfpfakdchhodaaDoorDoor
import Derived.Test.YthfpfakdchhodaaDoorListS
import Derived.Test.YthfpfakdchhodaaDoorPut
import Derived.StillTailTactics
import Derived.Deep.RegionHeld3
import Derived.Deep.RegionWith
namespace Go.Proofs.YthfpfakdchhodaaDoor.fnPointFormatsBack
open Go.ChangeShapes Go.WideShapes Go.ChangeAt Go.RowKit Go.Proofs.YthfpfakdchhodaaDoor
set_option linter.unusedVariables false

theorem type_any (x : Value) (w : World) : Calls Tryd.prog 108 #[.agg #[x]] w fun e w' => e = .returned (.int .u16 11) ∧ w.alloc (.cells #[x] 155) = w' := by
  go_enter Tryd.func108, Tryd.ntmps108
  go_wp2
  go_ret
  exact ⟨rfl, rfl⟩

/-- n zero bytes behind their number, as the extension. -/
def wire (n : Nat) : List UInt8 := extL 11 (vecL (List.replicate n 0) 1)
theorem wire_length (n : Nat) : (wire n).length = 5 + n := by simp [wire, extL_length, vecL_length]; omega
theorem wire_head (n : Nat) : wire n = bigL 2 11 ++ (bigL 2 (1 + n) ++ (bigL 1 n ++ List.replicate n 0)) := by
  simp [wire, extL, vecL, bigL_length]
theorem wire_4 (n : Nat) (hn : n ≤ 255) : bat (wire n) 4 = n := by
  rw [wire_head]
  simp [bat, bigL, UInt8.toNat_ofNat']
  omega
theorem elPf : Elem Tryd.prog 153 202 1 1 := Elem.of Tryd.underlying153 (z := .int .u8 0) (by kernel_rfl) rfl (by decide)
set_option maxRecDepth 100000 in
theorem unm_ok (l : List UInt8) (n b B cap : Nat) (w : World) (hn0 : 0 < n) (hn : n ≤ 255) (hl : l.length = 5 + n) (hbe : be16 l = 11) (hbe2 : be16 (l.drop 2) = 1 + n) (h4 : bat l 4 = n) (hz : ∀ i, i < n → bat l (5 + i) = 0) (hcap : 5 + n ≤ cap) (hb : Blk w b 155 [.slice none 0 0]) (hs : Sl w (some ⟨B, 0, none⟩) (cells8 l)) (hne : B ≠ b) :
    Calls Tryd.prog 80 #[.pointer (some ⟨b, 0, none⟩), .slice (some ⟨B, 0, none⟩) (5 + n) cap] w fun e w' => ∃ v, e = .returned .nilIface ∧ Blk w' b 155 [v] ∧ w'.ownsRow w.heap.size 202 1 v n (List.replicate n (.int .u8 0)) ∧ w.grownBy w' (some b) := by
  have HB := hide hb
  have HS := hide hs
  have HZ := hide hz
  have c0 := hb.cell 0
  have z0 := hb.frozen 0
  have hblt := hb.lt
  simp only [List.getElem?_cons_zero] at c0
  have d4 : w.cell? ⟨B, 4, none⟩ = some (.int .u8 (n : Int)) := by
    obtain ⟨b', o', e, hc⟩ := hs 4 _ (cells8_get l 4 (by omega))
    injection e with e; injection e with e1 e2; subst e1 e2
    rw [h4] at hc
    exact hc
  have hB : B < w.heap.size := World.block_lt_of_cell? w _ d4
  clear hb hs h4 hz
  have hw1 : IntKind.i64.wrap (1 + (n : Int)) = 1 + n := by rw [IntKind.wrap_i64]; omega
  have hw2 : IntKind.i64.wrap (n : Int) = n := by rw [IntKind.wrap_i64]; omega
  go_enter Tryd.func80, Tryd.ntmps80
  go_wp2_with fail
  have hc4 : (4 : Int) ≤ (cap : Int) := by omega
  have hcn : ¬ cap = 2 := by omega
  go_region_held3 (fun w' => w'.cell? ⟨b, 0, none⟩ = some (.slice none 0 0)) (first | go_keep | exact keep_cell hb1 (by assumption)) (first | (go_at_call 87; refine (get16 B 2 _ _ (l.drop 2) _ (by omega) (by rw [List.length_drop]; omega) (by exact ((cells8_drop l 2 ▸ HS.out.drop 2)).drew)).mono ?_; rintro e w1 ⟨rfl, hb1⟩))
  have c1 : w1.cell? ⟨b, 0, none⟩ = some (.slice none 0 0) := by assumption
  have HB1 := Lib.hid (show Below w.heap.size w w1 from (Below.refl _ _).drew.trans hb1)
  have d41 := keep_cell HB1.out d4
  clear hb1 c0 d4
  go_wp2_with fail
  have hbeb : ((be16 l : Int) != 11) = false := by rw [hbe]; rfl
  go_region_held3 (fun w' => w'.cell? ⟨b, 0, none⟩ = some (.slice none 0 0)) (first | go_keep | exact keep_cell hbx (by go_keep)) (first | (go_at_call 108; refine (type_any _ _).mono ?_; rintro e wA ⟨rfl, rfl⟩) | (go_at_call 87; refine (get16 B 0 _ _ l _ (by omega) (by omega) (by exact (HS.out.below HB1.out).drew)).mono ?_; rintro e w2 ⟨rfl, hbx⟩))
  have HB2 := Lib.hid (show Below w.heap.size w (w2.alloc (.cells #[.slice none 0 0] 155)) from ((HB1.out.trans ((Below.refl _ _).drew.trans hbx |>.mono HB1.out.size))).alloc (Nat.le_trans HB1.out.size hbx.size) _)
  have c2 : (w2.alloc (.cells #[.slice none 0 0] 155)).cell? ⟨b, 0, none⟩ = some (.slice none 0 0) := by assumption
  have K2 := Lib.hid (HB.out.below HB2.out hblt)
  have HS2 := Lib.hid (HS.out.below HB2.out)
  clear hbx c1 d41 HB1
  generalize (w2.alloc (.cells #[.slice none 0 0] 155)) = w3 at *
  have hd1 : ¬ 5 + (n : Int) - 4 < 1 + (n : Int) := by omega
  have hw3 : IntKind.i64.wrap (5 + (n : Int) - 4) = 5 + (n : Int) - 4 := by rw [IntKind.wrap_i64]; omega
  have hw4 : IntKind.i64.wrap (5 + (n : Int)) = 5 + (n : Int) := by rw [IntKind.wrap_i64]; omega
  have hw5 : IntKind.i64.wrap ((n : Int) + 1) = (n : Int) + 1 := by rw [IntKind.wrap_i64]; omega
  have heq : ((n : Int) + 1 != 1 + (n : Int)) = false := by simp; omega
  have HG3 := Lib.hid (only_of_below HB2.out (some b))
  clear c2 HB2
  go_wp2
  go_loopw [7, 8, 53] (fun _ _ i wr => ∃ k : Nat, k ≤ n ∧ i = .int .i64 k ∧ ∃ v, Blk wr b 155 [v] ∧ wr.ownsRow w.heap.size 202 1 v k (List.replicate k (.int .u8 0)) ∧ w.grownBy wr (some b)) (fun _ _ i _ => n - (intOf i).toNat)
  case atStart => exact ⟨0, by omega, rfl, _, K2.out, World.ownsRow_nil _ _ _ _, HG3.out⟩
  case round =>
    obtain ⟨k, hk, rfl, v, hblk, hown, hg⟩ := hrel
    have HK := Lib.hid hblk
    have HO := Lib.hid hown
    have HG := Lib.hid hg
    have c0 := hblk.cell 0
    simp only [List.getElem?_cons_zero] at c0
    have hlt0 := hblk.lt
    have hsz := hg.size
    clear hblk hown hg K2 HS2 HG3
    by_cases hlt : k < n
    · have hw6 : IntKind.i64.wrap (5 + (k : Int)) = ((5 + k : Nat) : Int) := by rw [IntKind.wrap_i64]; omega
      have hd : wr.cell? ⟨B, 5 + k, none⟩ = some (.int .u8 0) := by
        obtain ⟨b', o', e, hc⟩ := (HS.out.only_at HG.out hne) (5 + k) _ (cells8_get l (5 + k) (by omega))
        injection e with e; injection e with e1 e2; subst e1 e2
        rw [HZ.out k hlt, Nat.zero_add] at hc
        exact hc
      have hlo : (0 : Int) ≤ 5 + (k : Int) := by omega
      have hhi : 5 + (k : Int) < 5 + (n : Int) := by omega
      have hki : (k : Int) < (n : Int) := by omega
      go_wp2_with (at_builtin; refine wpList_append_lit elPf rfl _ _ rfl rfl HO.out rfl rfl (by simp [Value.oneCell']) (by omega) (by unfold maxLen; omega) (by omega) ?_; intro v' w' hown' hb' hat'; obtain ⟨g', c', rfl, hc', hm', hge', hgl'⟩ := own_form hown' (by omega); have HO' := Lib.hid hown'; have HB' := Lib.hid hb'; have HK' := Lib.hid (HK.out.below hb' hblt); have f' := HK'.out.frozen 0; have c0' := HK'.out.cell 0; have hlt' := HK'.out.lt; clear hown' hb' hat')
      go_roundw
      case rel => exact ⟨k + 1, by omega, by go_num, .slice (some ⟨g', 0, none⟩) (k + 1) c', HK'.out.set_ 0 _, by rw [List.replicate_succ']; exact own_far HO'.out hblt _, only_setCell (p := ⟨b, 0, none⟩) (only_below HG.out HB'.out (Nat.le_refl _)) (.inl rfl) _⟩
      case measure => simp [intOf]; omega
    · obtain rfl : k = n := by omega
      go_wp2
      go_ret
      exact ⟨v, rfl, HK.out, HO.out, HG.out⟩
theorem elU16 : Elem Tryd.prog 29 22 1 2 := Elem.of Tryd.underlying29 (z := .int .u16 0) (by kernel_rfl) rfl (by decide)
abbrev pfRow (nums : Value) : List Value := [.int .u16 11, .string ⟨#[]⟩, .slice none 0 0, nums, .slice none 0 0, .bool false, .int .u32 0, .bool false, .slice none 0 0, .slice none 0 0, .slice none 0 0, .slice none 0 0, .slice none 0 0]
abbrev zeroRow : List Value := [.int .u16 0, .string ⟨#[]⟩, .slice none 0 0, .slice none 0 0, .slice none 0 0, .bool false, .int .u32 0, .bool false, .slice none 0 0, .slice none 0 0, .slice none 0 0, .slice none 0 0, .slice none 0 0]
set_option maxRecDepth 100000 in
theorem data_any (n b : Nat) (A : Option Addr) (c : Nat) (w : World) (hn0 : 0 < n) (hn : n ≤ 255) (hb : Blk w b 155 [.slice A n c]) (hs : Sl w A (List.replicate n (.int .u8 0))) :
    Calls Tryd.prog 81 #[.pointer (some ⟨b, 0, none⟩)] w fun e w' => ∃ A' c', e = .returned (.agg (pfRow (.slice A' n c')).toArray) ∧ Sl w' A' (List.replicate n (.int .u16 0)) ∧ (∀ b off, A' = some ⟨b, off, none⟩ → w.heap.size ≤ b) ∧ Below w.heap.size w w' := by
  have HB := Lib.hid hb
  have HS := Lib.hid hs
  have hblt := hb.lt
  have c0 := hb.cell 0
  simp only [List.getElem?_cons_zero] at c0
  clear hb hs
  go_enter Tryd.func81, Tryd.ntmps81
  go_wp2
  have HO0 := Lib.hid (Blk.new_at (w := w.alloc (.cells (pfRow (.slice none 0 0) |>.set 0 (.int .u16 0)).toArray 40)) (w.heap.size + 1) (by simp) 40 (pfRow (.slice none 0 0)))
  have HB0 := Lib.hid (((Below.refl w.heap.size w).alloc (Nat.le_refl _) (.cells (pfRow (.slice none 0 0) |>.set 0 (.int .u16 0)).toArray 40)).alloc (by simp) (.cells (pfRow (.slice none 0 0)).toArray 40))
  go_loopw [5, 12] (fun _ i wr => ∃ k : Nat, k ≤ n ∧ i = .int .i64 k ∧ ∃ v, Blk wr (w.heap.size + 1) 40 (pfRow v) ∧ wr.ownsRow (w.heap.size + 2) 22 1 v k (List.replicate k (.int .u16 0)) ∧ Below w.heap.size w wr ∧ Blk wr w.heap.size 40 zeroRow) (fun _ i _ => n - (intOf i).toNat)
  case atStart => exact ⟨0, by omega, rfl, _, HO0.out, World.ownsRow_nil _ _ _ _, HB0.out, (Blk.new w 40 zeroRow).alloc _⟩
  case round =>
    obtain ⟨k, hk, rfl, v, hblk, hown, hb', hres⟩ := hrel
    have HR := Lib.hid hres
    have HK := Lib.hid hblk
    have HO := Lib.hid hown
    have HBr := Lib.hid hb'
    have c3 : wr.cell? ⟨w.heap.size + 1, 3, none⟩ = some v := hblk.cell 3
    have f3 := hblk.frozen 3
    have hlt0 := hblk.lt
    clear hblk hown hb' hres HO0 HB0
    by_cases hlt : k < n
    · obtain ⟨bb, off, rfl, hd⟩ := (HS.out.below HBr.out) k (.int .u8 0) (by rw [List.getElem?_replicate, if_pos hlt])
      go_wp2_with (at_builtin; refine wpList_append_lit elU16 rfl _ _ rfl rfl HO.out rfl rfl (by simp [Value.oneCell']) (by omega) (by unfold maxLen; omega) (by omega) ?_; intro v' w' hown' hb' hat'; obtain ⟨g', c', rfl, hc', hm', hge', hgl'⟩ := own_form hown' (by omega); have HO' := Lib.hid hown'; have HB' := Lib.hid hb'; have HK' := Lib.hid (HK.out.below hb' (by omega)); have f' := HK'.out.frozen 3; have c0' := HK'.out.cell 3; have hlt' := HK'.out.lt; clear hown' hb' hat')
      go_roundw
      case rel => exact ⟨k + 1, by omega, by go_num, .slice (some ⟨g', 0, none⟩) (k + 1) c', HK'.out.set_ 3 _, by rw [List.replicate_succ']; exact own_far HO'.out (Nat.lt_succ_self _) _, below_set (HBr.out.trans (HB'.out.mono (by omega))) (p := ⟨w.heap.size + 1, 3, none⟩) (Nat.le_succ _) _, (HR.out.below HB'.out (by omega)).far (p := ⟨w.heap.size + 1, 3, none⟩) (by show _ ≠ w.heap.size + 1; omega) _⟩
      case measure => simp [intOf]; omega
    · obtain rfl : k = n := by omega
      obtain ⟨A', c', rfl, hs', _, _, hA⟩ := own_sl' HO.out
      have HS' := Lib.hid hs'
      have HA := Lib.hid hA
      clear hs' hA
      go_wp2_with (refine wpList_load_mid rfl _ (.tmp 3) rfl _ _ rfl (pfRow (.slice A' k c')) _ HK.out.rangeAt Tryd.underlying40 rfl (by kernel_rfl) ?_; refine wpList_store_blk HR.out rfl (.tmp 2) (.tmp 24) rfl (pfRow (.slice A' k c')).toArray rfl rfl rfl (by kernel_rfl) (by simp [Value.oneCell']) ?_; intro w4 hr4 hg4; have HR4 := Lib.hid hr4; have HG4 := Lib.hid hg4; clear hr4 hg4)
      refine bodyPost_ret (ret_cell HR4.out rfl rfl Tryd.underlying40 rfl (by kernel_rfl)) rfl ?_
      exact ⟨A', ⟨c', rfl⟩, HS'.out.only HG4.out (fun b' off e => by have := (HA.out b' off e).1; omega), (fun b' off e => by have := (HA.out b' off e).1; omega), below_only HBr.out HG4.out HBr.out.size (Nat.le_refl _)⟩
theorem wire_z (n : Nat) (hn : n ≤ 255) (i : Nat) (hi : i < n) : bat (wire n) (5 + i) = 0 := by
  have h : wire n = (bigL 2 11 ++ bigL 2 (1 + n) ++ bigL 1 n) ++ List.replicate n 0 := by rw [wire_head]; simp only [List.append_assoc]
  rw [h]
  unfold bat
  rw [List.getD_eq_getElem?_getD, List.getElem?_append_right (by simp [bigL_length]), List.getElem?_replicate, if_pos (by simp [bigL_length]; omega)]
  rfl
theorem pf_one (A : Option Addr) (n c : Nat) : ((pfRow (.slice A n c)).toArray).all (·.oneCell') = true := by simp [Value.oneCell']
set_option maxRecDepth 100000 in
theorem read_ok (n : Nat) (w : World) (hn0 : 0 < n) (hn : n ≤ 255) :
    Calls Tryd.prog 39 #[.string (S (wire n))] w fun e w' => ∃ A c, e = .returned (.tuple #[.agg (pfRow (.slice A n c)).toArray, .bool true]) ∧ Sl w' A (List.replicate n (.int .u16 0)) ∧ Below w.heap.size w w' := by
  have hwl := wire_length n
  have hbe : be16 (wire n) = 11 := by rw [wire_head]; exact be16_big 11 (by omega) _
  have hbe2 : be16 ((wire n).drop 2) = 1 + n := by rw [wire_head, List.drop_left' (bigL_length 2 _)]; exact be16_big (1 + n) (by omega) _
  go_enter Tryd.func39, Tryd.ntmps39
  go_wp2_with (refine wpList_bytes (o := ⟨some 10, _, _, _, _, _⟩) rfl _ rfl Tryd.underlying9 Tryd.underlying48 Tryd.underlying5 rfl (w.heap.size + 2) (by simp) ?_; intro cap w1 hcap hs1 hb1 hlt1 hx1; have HCAP := hide hcap; have HS1 := hide hs1; have HB1 := hide hb1; have HLT1 := hide hlt1; clear hcap hs1 hb1 hlt1 hx1)
  refine (unm_ok (wire n) n (w.heap.size + 1) (w.heap.size + 2) cap w1 hn0 hn hwl hbe hbe2 (wire_4 n hn) (wire_z n hn) (by have := HCAP.out; omega) ((Blk.new_at (w.heap.size + 1) (by simp) 155 [.slice none 0 0]).below HB1.out (by omega)) HS1.out (by omega)).mono ?_
  rintro e w2 ⟨v, rfl, hbk2, hown2, hg2⟩
  obtain ⟨A2, c2, rfl, hs2, _, _⟩ := own_sl hown2
  have hr2 : Blk w2 w.heap.size 40 zeroRow :=
    (((Blk.new w 40 _).alloc _).below HB1.out (by omega)).grown hg2 (by simp)
  have HB := Lib.hid (show Below w.heap.size w w2 from (((Below.refl _ _).alloc (Nat.le_refl _) _).alloc (by simp) _).trans ((HB1.out.mono (by omega)).grown hg2 (by have := HLT1.out; omega) (fun k e => by injection e with e; omega)))
  have HK2 := hide hbk2
  have HS2 := hide hs2
  have HR2 := hide hr2
  clear hr2 hbk2 hg2 hs2 hown2
  go_wp2_with fail
  refine (data_any n (w.heap.size + 1) A2 c2 w2 hn0 hn HK2.out HS2.out).mono ?_
  rintro e w3 ⟨A3, c3, rfl, hs3, hA3, hb3⟩
  have hr3 := HR2.out.below hb3 HR2.out.lt
  have HB3 := Lib.hid (HB.out.trans (hb3.mono HB.out.size))
  have HR3 := hide hr3
  have HS3 := hide hs3
  clear hr3 hb3 hs3
  go_wp2_with (refine wpList_store_blk HR3.out rfl (.tmp 2) (.tmp 16) rfl (pfRow (.slice A3 n c3)).toArray rfl rfl rfl (by kernel_rfl) (pf_one _ _ _) ?_; intro w4 hr4 hg4; have HR4 := hide hr4; have HG4 := hide hg4; clear hr4 hg4)
  refine bodyPost_ret (ret_cell_tmp HR4.out rfl rfl Tryd.underlying40 rfl (by kernel_rfl)) rfl ?_
  have hwl2 : w.heap.size < w2.heap.size := HR2.out.lt
  exact ⟨A3, ⟨c3, rfl⟩, HS3.out.only HG4.out (fun b' off e => by have := hA3 b' off e; omega), below_only HB3.out HG4.out HB3.out.size (Nat.le_refl _)⟩
theorem keep_all {w w' : World} {b : Nat} {row : List Value} (hb : Below w.heap.size w w') (hl : b < w.heap.size) (h : ∀ i, w.cell? ⟨b, i, none⟩ = row[i]?) : ∀ i, w'.cell? ⟨b, i, none⟩ = row[i]? := fun i => (hb.cell (p := ⟨b, i, none⟩) hl).trans (h i)
theorem made_u16 (n : Nat) : (madeCells #[Value.int .u16 0] n).toList = (List.replicate n (0 : Int)).map (Value.int .u16) := by
  apply List.ext_getElem
  · simp [size_madeCells]
  · intro i h1 h2
    simp [madeCells, Nat.mod_one]
set_option maxRecDepth 100000 in
theorem walk (a0 : Int) (w0 : (Lit.int .i64 a0).wf = true) (w : World)  (hE11 : ErrAt 205 11 w) (hE8 : ErrAt 205 8 w) (hE9 : ErrAt 205 9 w) :
    Calls Tryd.prog 12 #[.int .i64 a0] w fun e w' => e = .returned (.bool true) ∧ Below w.heap.size w w' := by
  clear hE11 hE8 hE9 w0
  by_cases h0 : (1 : Int) ≤ a0
  · by_cases h1 : a0 ≤ 255
    · obtain ⟨n, rfl⟩ := Int.eq_ofNat_of_zero_le (show 0 ≤ a0 by omega)
      have hn0 : 0 < n := by omega
      have hn : n ≤ 255 := by omega
      have hmk := fun W : World => make_bytes_at n n rfl (by omega) W .i64 .i64
      have hmk2 := fun W : World => run_make_row' (P := Tryd.prog) 29 22 (.int .u16 0) 2 Tryd.underlying29 (by kernel_rfl) rfl .i64 .i64 n (by omega) (by omega) W
      have HZ := Lib.hid (show zeros n = cells8 (List.replicate n 0) by simp [zeros, cells8])
      have hstr : (convert 48 9 (.slice (some ⟨w.heap.size, 0, none⟩) n n)).run Tryd.prog (w.alloc (.cells (zeros n).toArray 5)) = .ok (.string (S (List.replicate n 0))) (w.alloc (.cells (zeros n).toArray 5)) :=
        run_string_of (P := Tryd.prog) _ Tryd.underlying48 Tryd.underlying5 Tryd.underlying9 (by simp) (by have := sl_new w (zeros n).toArray 5 (0, 0); rw [← HZ.out]; simpa using this)
      go_enter Tryd.func12, Tryd.ntmps12
      go_wp2_with fail
      refine (vec_any (List.replicate n 0) 1 _ (by simp; omega) (by omega) (by omega)).mono ?_
      rintro e w1 ⟨rfl, hb1⟩
      have HB1 := Lib.hid (show Below w.heap.size w w1 from ((Below.refl _ _).alloc (Nat.le_refl _) _).trans (hb1.mono (by simp)))
      clear hb1 hstr hmk
      go_wp2_with fail
      refine (framedExt_any 11 (vecL (List.replicate n 0) 1) _ (by omega) (by omega) (by rw [vecL_length]; simp; omega)).mono ?_
      rintro e w2 ⟨rfl, hb2⟩
      have HB2 := Lib.hid (HB1.out.trans (hb2.mono HB1.out.size))
      clear hb2 HB1
      go_wp2_with fail
      refine (read_ok n w2 hn0 hn).mono ?_
      rintro e w3 ⟨A, c, rfl, hs3, hb3⟩
      have HB3 := Lib.hid (HB2.out.trans (hb3.mono HB2.out.size))
      have HS3 := Lib.hid (show Sl w3 A ((List.replicate n (0 : Int)).map (Value.int .u16)) by simpa using hs3)
      clear hb3 HB2 hs3
      go_wp2
      have F1 := Lib.hid (show ∀ o o2 : Obj, Sl ((w3.alloc o).alloc o2).drew A ((List.replicate n (0 : Int)).map (Value.int .u16)) from fun o o2 => HS3.out.below ((((Below.refl _ _).alloc (Nat.le_refl _) o).alloc (by simp) o2).drew))
      have F2 := Lib.hid (show ∀ o : Obj, Sl ((w3.alloc o).alloc (.cells (madeCells #[Value.int .u16 0] n) 22)).drew (some ⟨w3.heap.size + 1, 0, none⟩) ((List.replicate n (0 : Int)).map (Value.int .u16)) from fun o => by
        have k := sl_new (w3.alloc o) (madeCells #[Value.int .u16 0] n) 22 (0, 0)
        rw [made_u16] at k
        have k2 := k.drew
        simpa using k2)
      have G1 := Lib.hid (show ∀ i, (w3.alloc (.cells (pfRow (.slice A n c)).toArray 40)).drew.cell? ⟨w3.heap.size, i, none⟩ = (pfRow (.slice A n c))[i]? from (Blk.new w3 _ _).cell)
      have G2 := Lib.hid (show ∀ (o : Obj) i, ((w3.alloc (.cells (pfRow (.slice A n c)).toArray 40)).alloc o).drew.cell? ⟨w3.heap.size, i, none⟩ = (pfRow (.slice A n c))[i]? from fun o => ((Blk.new w3 _ _).alloc o).cell)
      go_region_held3 (fun w' => ∀ i, w'.cell? ⟨w3.heap.size, i, none⟩ = (pfRow (.slice A n c))[i]?) (first | exact G1.out | exact G2.out _ | exact keep_all hb4 (by simp; omega) (G2.out _) | go_keep) (first | (go_at_call 26; refine (sameExt_of 11 false false 0 ⟨#[]⟩ _ _ _ _ _ _ _ _ _ _ _ _ _ _ _ _ _ (same_nil_str none none 0 0 _ _) (same_u16 _ _ n n _ _ (List.replicate n 0) _ (by simp) (by simp) (by simp; omega) (F1.out _ _) (F2.out _)) (same_nil_pair none none 0 0 _ _) (same_nil_share none none 0 0 _ _) (same_nil_share none none 0 0 _ _) (same_nil_u16 none none 0 0 _ _) (same_nil_ident none none 0 0 _ _) (same_nil_filter none none 0 0 _ _)).mono ?_; rintro e w4 ⟨rfl, hb4⟩))
      have HB4 := Lib.hid ((((HB3.out.alloc HB3.out.size _).alloc (by have := HB3.out.size; simp; omega) _).drew).trans (hb4.mono (by have := HB3.out.size; simp; omega)))
      clear hb4
      go_wp2
      go_ret
      exact ⟨rfl, HB4.out⟩
    · go_enter Tryd.func12, Tryd.ntmps12
      go_wp2
      go_ret
      exact ⟨rfl, Below.refl _ _⟩
  · go_enter Tryd.func12, Tryd.ntmps12
    go_wp2
    go_ret
    exact ⟨rfl, Below.refl _ _⟩
abbrev laidL : List (String × DataW Unit) := [("pub-convoy/pub/dtls/pkg/protocol/extension.errBufferTooSmall", Rows.laid_pub_convoy_pub_dtls_pkg_protocol_extension_errBufferTooSmall), ("pub-convoy/pub/dtls/pkg/protocol/extension.errInvalidExtensionType", Rows.laid_pub_convoy_pub_dtls_pkg_protocol_extension_errInvalidExtensionType), ("pub-convoy/pub/dtls/pkg/protocol/extension.errLengthMismatch", Rows.laid_pub_convoy_pub_dtls_pkg_protocol_extension_errLengthMismatch)]
theorem door_met (os : Os) (args : Array Value) : laidMetH Tryd.prog laidL ((World.doorLaid Tryd.prog 323 os).forCall (fun _ _ => 0) ⟨#[], args, []⟩).memory :=
  laidMetH_of_parts3 (fuel := 8) (laidMet_of_run' 8 (by kernel_rfl) (by kernel_rfl)) (by kernel_rfl) (by kernel_rfl)
theorem of_laid {W : World} (h : laidMetH Tryd.prog laidL W) : ErrAt 205 11 W ∧ ErrAt 205 8 W ∧ ErrAt 205 9 W := by
  rw [MakeChecks.laidMetH_plain _ _ _ (by kernel_rfl)] at h
  have k0 := errAt_of_laid h (show Tryd.prog.globalNamed "pub-convoy/pub/dtls/pkg/protocol/extension.errBufferTooSmall" = some 11 by kernel_rfl) (by kernel_rfl)
  have h1 := h.tail
  have k1 := errAt_of_laid h1 (show Tryd.prog.globalNamed "pub-convoy/pub/dtls/pkg/protocol/extension.errInvalidExtensionType" = some 8 by kernel_rfl) (by kernel_rfl)
  have h2 := h1.tail
  have k2 := errAt_of_laid h2 (show Tryd.prog.globalNamed "pub-convoy/pub/dtls/pkg/protocol/extension.errLengthMismatch" = some 9 by kernel_rfl) (by kernel_rfl)
  exact ⟨k0, k1, k2⟩
set_option maxRecDepth 100000 in
theorem lifted (os : Os) (started : os.Started) (H : Type) (enc : TypeId × Value → H) :
    ReturnsInHanded {} Tryd.checked os 12 .any (fun w args => (Rows.fnPointFormatsBackSpec.pre enc Tryd.prog Tryd.f12 [] false w args ∧ laidMetH Tryd.prog laidL w) ∧ sizedMet enc Tryd.prog Tryd.f12 (OpenSpec.ofChange Rows.fnPointFormatsBackSpec) false w args)
      (Rows.fnPointFormatsBackSpec.post enc Tryd.prog Tryd.f12 false true false false) := by
  refine returnsInHanded_of_change_and (C := Tryd.checked) (X := fun w _ => laidMetH Tryd.prog laidL w) (fun _ _ _ hh h => h.of_heap hh) own started (by kernel_rfl) Tryd.func12
    (ChangeSpec.witness_shaped (enc := enc) (C := Tryd.checked) (os := os) (X := fun w _ => laidMetH Tryd.prog laidL w) false (World.doorLaid Tryd.prog 323 os) #[.int .i64 0] 8 rfl (World.shaped_of_RefB (by kernel_rfl) (by kernel_rfl)) (by kernel_rfl) (by kernel_rfl) (by kernel_rfl) (door_met os _)) ?_
  intro W base args ds gs before hval0 hW _ _ hL _
  obtain ⟨hE11, hE8, hE9⟩ := of_laid hL
  have hval : ∀ (j : Nat) t v, Tryd.f12.params[j]? = some t → args[j]? = some v → Value.okWide Tryd.prog W .any base t v := hval0
  have hW' := hW
  obtain ⟨p, q, hA0, hV, rfl, hfz, hnd⟩ := hW
  have hA : DataW.TrodAll enc Tryd.prog W 0 (fun _ => true) true Tryd.f12.params.toList args.toList ds p := hA0
  rw [Tryd.params12] at hA hval
  obtain ⟨v0, vs0, d0, ds0, p0, q0, hargs, rfl, rfl, h0, r0⟩ := trodAll_cons hA
  obtain ⟨rfl, rfl, rfl⟩ := trodAll_nil r0
  obtain rfl : args = #[v0] := by cases args; simp_all
  obtain ⟨rfl, rfl⟩ := trodVars_none hV
  obtain ⟨a0, rfl, rfl, rfl, w0⟩ := open_int Tryd.underlying3 (hval 0 3 v0 rfl rfl) h0
  clear hA0 hval0
  refine (walk a0 w0 W hE11 hE8 hE9).mono fun e W' ⟨he, hb⟩ => ?_
  subst he
  exact ⟨_, rfl, law_post laidOut (by kernel_rfl) rfl Tryd.underlying4 rfl hW' rfl rfl rfl hb⟩

theorem over : Rows.fnPointFormatsBackRow.holds Tryd.pinned (OpenSpec.ofChange Rows.fnPointFormatsBackSpec) :=
  OpenClaim.holds_of_wide 12 Tryd.f12 rfl rfl rfl rfl rfl rfl rfl ⟨rfl, rfl, rfl, rfl, rfl⟩ rfl rfl rfl rfl rfl (by kernel_rfl) Tryd.func12 (by kernel_rfl)
    (of_decide_eq_true (by kernel_rfl)) (by unfold Func.isWrapper; first | (rw [if_pos (by decide +kernel)]; kernel_rfl) | (rw [if_neg (by decide +kernel)]; exact ⟨rfl, rfl⟩))
    (fun os started H enc _ => lifted os started H enc)

/-- THE STATEMENT: the tied card. -/
theorem proved : Rows.FnPointFormatsBackCardSaid :=
  Claim7.holds_tied_plain_at .later [] [.sentinel, .sentinel, .sentinel] true (true, "20b3b98fcc8707e4b2223a6ae671195b166d92b4110cce829ed6e3bbef5fa288") false
    over (fun _ h => by cases h) (by kernel_rfl) (fun _ h => by cases h) fnPointFormatsBack_row_tie rfl ⟨rfl, rfl⟩ (by kernel_rfl) rfl
    (fun f fn hf hfn => by
      obtain rfl : f = 12 := Option.some.inj ((show Tryd.prog.funcNamed "pub-convoy/laws.FnPointFormatsBack" = some 12 by kernel_rfl).symm.trans hf) |>.symm
      obtain rfl : fn = Tryd.f12 := (Option.some.inj (Tryd.func12.symm.trans hfn)).symm
      exact ⟨by kernel_rfl, fun j t ht => by
        rw [Tryd.params12] at ht
        have hm : t ∈ [3] := by simpa using Array.mem_of_getElem? ht
        have hall : ([3].all fun u => !Tryd.prog.wantsStandIn u) = true := by kernel_rfl
        exact (show Tryd.prog.wantsStandIn t = false by simpa using List.all_eq_true.1 hall t hm)⟩)
    (by kernel_rfl)
#print axioms proved

end Go.Proofs.YthfpfakdchhodaaDoor.fnPointFormatsBack
