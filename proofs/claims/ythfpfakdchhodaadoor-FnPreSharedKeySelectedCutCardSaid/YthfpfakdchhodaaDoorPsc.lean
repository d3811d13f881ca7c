/- FnPreSharedKeySelectedCut: for every number and every number of lacking bytes the law returns true. -/
import Derived.Test.YthfpfakdchhodaaDoorDoor
import Derived.Test.YthfpfakdchhodaaDoorStr
import Derived.Test.YthfpfakdchhodaaDoorPut
namespace Go.Proofs.YthfpfakdchhodaaDoor.fnPreSharedKeySelectedCut
open Go.ChangeShapes Go.WideShapes Go.ChangeAt Go.RowKit Go.Proofs.YthfpfakdchhodaaDoor
set_option linter.unusedVariables false

theorem type_any (x y z : Value) (w : World) : Calls Tryd.prog 101 #[.agg #[x, y, z]] w fun e w' => e = .returned (.int .u16 41) ∧ w.alloc (.cells #[x, y, z] 130) = w' := by
  go_enter Tryd.func101, Tryd.ntmps101
  go_wp2
  go_ret
  exact ⟨rfl, rfl⟩
set_option maxRecDepth 100000 in
theorem unm_bad0 (l : List UInt8) (b B cap : Nat) (x : Addr) (w : World) (hl : l.length < 2) (hcap : l.length ≤ cap) (hb : Blk w b 130 [.slice none 0 0, .slice none 0 0, .int .u16 0]) (hs : Sl w (some ⟨B, 0, none⟩) (cells8 l)) (hE : w.cell? ⟨8, 0, none⟩ = some (.iface 205 (.pointer (some x)))) :
    Calls Tryd.prog 69 #[.pointer (some ⟨b, 0, none⟩), .slice (some ⟨B, 0, none⟩) l.length cap] w fun e w' => e = .returned (.iface 205 (.pointer (some x))) ∧ Below w.heap.size w w' := by
  have HB := hide hb
  have HS := hide hs
  have hEl : 8 < w.heap.size := World.block_lt_of_cell? w _ hE
  clear hb hs
  go_enter Tryd.func69, Tryd.ntmps69
  go_wp2_with fail
  have V0 := Lib.hid (Str.of (n := l.length) (l := l) rfl (((Blk.new w 181 [.slice (some ⟨B, 0, none⟩) l.length cap]).alloc (.cells #[.int .u16 0] 22))) (HS.out.below (((Below.refl _ _).alloc (Nat.le_refl _) _).alloc (by simp) _)) hcap (Nat.zero_le _))
  first | go_region_law (first | (go_simp; go_at_call 94; refine (ru16_short w.heap.size (w.heap.size + 1) B l _ hl V0.out.drew).mono ?_; rintro e w1 ⟨rfl, rfl⟩) | (go_simp; go_at_call 101; refine (type_any _ _ _ _).mono ?_; rintro e w2 ⟨rfl, rfl⟩)) | fail
  all_goals
    go_wp2
    go_ret
    exact ⟨rfl, (((Below.refl _ _).alloc (Nat.le_refl _) _).alloc (by simp) _).drew⟩
set_option maxRecDepth 100000 in
theorem unm_ok (l : List UInt8) (b B cap : Nat) (w : World) (hl : l.length = 6) (h41 : be16 l = 41) (h2 : beN ((l.drop 2).take 2) = 2) (hcap : l.length ≤ cap) (hb : Blk w b 130 [.slice none 0 0, .slice none 0 0, .int .u16 0]) (hs : Sl w (some ⟨B, 0, none⟩) (cells8 l)) (hne : B ≠ b) :
    Calls Tryd.prog 69 #[.pointer (some ⟨b, 0, none⟩), .slice (some ⟨B, 0, none⟩) 6 cap] w fun e w' => e = .returned .nilIface ∧ (∃ x, Blk w' b 130 [.slice none 0 0, .slice none 0 0, .int .u16 x]) ∧ w.grownBy w' (some b) := by
  have HB := hide hb
  have HS := hide hs
  clear hb hs
  go_enter Tryd.func69, Tryd.ntmps69
  go_wp2_with fail
  have V0 := Lib.hid (Str.of (n := 6) (l := l) hl.symm (((Blk.new w 181 [.slice (some ⟨B, 0, none⟩) 6 cap]).alloc (.cells #[.int .u16 0] 22))) (HS.out.below (((Below.refl _ _).alloc (Nat.le_refl _) _).alloc (by simp) _)) hcap (Nat.zero_le _))
  have E0 := Lib.hid (Blk.new_at (w := w.alloc (.cells #[.slice (some ⟨B, 0, none⟩) 6 cap] 181)) (w.heap.size + 1) (by simp) 22 [.int .u16 0])
  have hBl : B < w.heap.size := by
    obtain ⟨b', o', e, hc⟩ := HS.out 0 _ (cells8_get l 0 (by omega))
    injection e with e; injection e with e1 e2; subst e1
    exact World.block_lt_of_cell? w _ hc
  have P0 := Lib.hid ((HB.out.alloc (.cells #[.slice (some ⟨B, 0, none⟩) 6 cap] 181)).alloc (.cells #[.int .u16 0] 22))
  have hblt := HB.out.lt
  go_region_law (first | (go_simp; go_at_call 94; refine (ru16 w.heap.size (w.heap.size + 1) B _ _ l _ (by omega) V0.out.drew E0.out (by omega) (by omega) (by omega)).mono ?_; rintro e w1 ⟨rfl, hV1, hE1, hC1⟩; have e1 := hE1.cell 0; have P1 := Lib.hid (hC1.blk (by simp; omega) P0.out); have p0 := P1.out.cell 0; have p1 := P1.out.cell 1; have p2 := P1.out.cell 2; have elt := hE1.lt; have plt := P1.out.lt) | (go_simp; go_at_call 101; refine (type_any _ _ _ _).mono ?_; rintro e w2 ⟨rfl, rfl⟩))
  all_goals
    have V1 := Lib.hid hV1
    have C1 := Lib.hid hC1
    have S1 := Lib.hid (Chg.sl (ps := [w.heap.size, w.heap.size + 1]) hC1 (by simp; omega) ((HS.out.below (((Below.refl _ _).alloc (Nat.le_refl _) _).alloc (by simp) _)).drew))
    have htb : ((be16 l : Int) != 41) = false := by rw [h41]; rfl
    clear hV1 hC1 hE1 e1 p0 p1 p2 V0 E0 P0
    go_wp2_with fail
    refine (lp16 w.heap.size (w1.heap.size + 1) B _ _ (l.drop 2) _ (by rw [List.length_drop]; omega) (by rw [h2, List.length_drop]; omega) (V1.out.chg (((Chg.refl [] w1).alloc _).alloc _) (by simp) (by simp)) (Blk.new_at (w1.heap.size + 1) (by simp) _ [.slice none 0 0]) (by omega) (by omega) (by omega)).mono ?_
    rintro e w3 ⟨rfl, hV3, hX3, hC3⟩
    rw [h2] at hX3
    have C3 := Lib.hid hC3
    have P3 := Lib.hid (hC3.blk (by simp; omega) ((P1.out.alloc _).alloc _))
    have hX3l := hX3.lt
    obtain ⟨t3, off3, cap3, hx3, hx3c, hx3m, hx3s⟩ := hX3
    have hlen : (((l.drop 2).drop 2).take 2).length = 2 := by rw [List.length_take, List.length_drop, List.length_drop]; omega
    rw [hlen] at hx3
    have x0 := hx3.cell 0
    simp only [List.getElem?_cons_zero] at x0
    have X3 := Lib.hid (show Str w3 (w1.heap.size + 1) B (((l.drop 2).drop 2).take 2) from ⟨t3, off3, cap3, by rw [hlen]; exact hx3, hx3c, hx3m, hx3s⟩)
    clear hV3 hC3 hx3 hx3c hx3s V1
    go_wp2_with fail
    refine (ru16 (w1.heap.size + 1) w3.heap.size B _ (.int .u16 0) (((l.drop 2).drop 2).take 2) _ (by omega) (X3.out.chg ((Chg.refl [] w3).alloc _) (by simp) (by simp)) (Blk.new w3 _ [.int .u16 0]) (by omega) (by omega) (by omega)).mono ?_
    rintro e w4 ⟨rfl, hX4, hS4, hC4⟩
    have s0 : w4.cell? ⟨w3.heap.size, 0, none⟩ = some (.int .u16 (be16 (((l.drop 2).drop 2).take 2) : Int)) := hS4.cell 0
    have sl4 := hS4.lt
    have P4 := Lib.hid (Chg.blk (b := b) hC4 (by simp; omega) (P3.out.alloc _))
    have p42 : w4.cell? ⟨b, 2, none⟩ = some (.int .u16 0) := P4.out.cell 2
    have f42 := P4.out.frozen 2
    have plt4 := P4.out.lt
    have hc1s := C1.out.size
    have hc3s := C3.out.size
    have hw1s : w.heap.size ≤ w1.heap.size := by omega
    have B1 : Below w.heap.size w w1 := Chg.below (((((Below.refl w.heap.size w).alloc (Nat.le_refl _) _).alloc (by simp) _).drew)) C1.out (by show _ ≤ ((w.alloc _).alloc _).heap.size; simp; omega) (by simp)
    have B3 : Below w.heap.size w w3 := Chg.below ((B1.alloc hw1s _).alloc (by simp; omega) _) C3.out (by simp; omega) (by simp; omega)
    have hw3s : w.heap.size ≤ w3.heap.size := B3.size
    have B4 : Below w.heap.size w w4 := Chg.below (B3.alloc hw3s _) hC4 (by simp; omega) (by simp; omega)
    have HG4 := Lib.hid (only_of_below B4 (some b))
    clear hX4 hS4 hC4
    go_wp2
    go_ret
    exact ⟨rfl, ⟨_, P4.out.set_ 2 _⟩, only_setCell (p := ⟨b, 2, none⟩) HG4.out (.inl rfl) _⟩
set_option maxRecDepth 100000 in
theorem unm_bad1 (l : List UInt8) (b B cap : Nat) (x : Addr) (w : World) (hl : 2 ≤ l.length) (h41 : be16 l = 41) (hbad : (l.drop 2).length < 2 ∨ (2 ≤ (l.drop 2).length ∧ (l.drop 2).length < 2 + beN ((l.drop 2).take 2))) (hcap : l.length ≤ cap) (hb : Blk w b 130 [.slice none 0 0, .slice none 0 0, .int .u16 0]) (hs : Sl w (some ⟨B, 0, none⟩) (cells8 l)) (hne : B ≠ b) (hE : w.cell? ⟨11, 0, none⟩ = some (.iface 205 (.pointer (some x)))) :
    Calls Tryd.prog 69 #[.pointer (some ⟨b, 0, none⟩), .slice (some ⟨B, 0, none⟩) l.length cap] w fun e w' => e = .returned (.iface 205 (.pointer (some x))) ∧ Below w.heap.size w w' := by
  have HB := hide hb
  have HS := hide hs
  have HBAD := Lib.hid hbad
  have hEl : 11 < w.heap.size := World.block_lt_of_cell? w _ hE
  clear hb hs hbad
  go_enter Tryd.func69, Tryd.ntmps69
  go_wp2_with fail
  have V0 := Lib.hid (Str.of (n := l.length) (l := l) rfl (((Blk.new w 181 [.slice (some ⟨B, 0, none⟩) l.length cap]).alloc (.cells #[.int .u16 0] 22))) (HS.out.below (((Below.refl _ _).alloc (Nat.le_refl _) _).alloc (by simp) _)) hcap (Nat.zero_le _))
  have E0 := Lib.hid (Blk.new_at (w := w.alloc (.cells #[.slice (some ⟨B, 0, none⟩) l.length cap] 181)) (w.heap.size + 1) (by simp) 22 [.int .u16 0])
  have hBl : B < w.heap.size := by
    obtain ⟨b', o', e, hc⟩ := HS.out 0 _ (cells8_get l 0 (by omega))
    injection e with e; injection e with e1 e2; subst e1
    exact World.block_lt_of_cell? w _ hc
  have P0 := Lib.hid ((HB.out.alloc (.cells #[.slice (some ⟨B, 0, none⟩) l.length cap] 181)).alloc (.cells #[.int .u16 0] 22))
  have hblt := HB.out.lt
  go_region_law (first | (go_simp; go_at_call 94; refine (ru16 w.heap.size (w.heap.size + 1) B _ _ l _ (by omega) V0.out.drew E0.out (by omega) (by omega) (by omega)).mono ?_; rintro e w1 ⟨rfl, hV1, hE1, hC1⟩; have e1 := hE1.cell 0; have P1 := Lib.hid (hC1.blk (by simp; omega) P0.out); have p0 := P1.out.cell 0; have p1 := P1.out.cell 1; have p2 := P1.out.cell 2; have elt := hE1.lt; have plt := P1.out.lt) | (go_simp; go_at_call 101; refine (type_any _ _ _ _).mono ?_; rintro e w2 ⟨rfl, rfl⟩))
  all_goals
    have V1 := Lib.hid hV1
    have C1 := Lib.hid hC1
    have S1 := Lib.hid (Chg.sl (ps := [w.heap.size, w.heap.size + 1]) hC1 (by simp; omega) ((HS.out.below (((Below.refl _ _).alloc (Nat.le_refl _) _).alloc (by simp) _)).drew))
    have htb : ((be16 l : Int) != 41) = false := by rw [h41]; rfl
    clear hV1 hC1 hE1 e1 p0 p1 p2 V0 E0 P0
    go_wp2_with fail
    have hc1s := C1.out.size
    have hw1s : w.heap.size ≤ w1.heap.size := by omega
    have B1 : Below w.heap.size w w1 := Chg.below (((((Below.refl w.heap.size w).alloc (Nat.le_refl _) _).alloc (by simp) _).drew)) C1.out (by show _ ≤ ((w.alloc _).alloc _).heap.size; simp; omega) (by simp)
    refine (lp16_bad w.heap.size (w1.heap.size + 1) B (l.drop 2) _ HBAD.out (V1.out.chg (((Chg.refl [] w1).alloc _).alloc _) (by simp) (by simp)) (by omega)).mono ?_
    rintro e w3 ⟨rfl, hC3⟩
    have B3 : Below w.heap.size w w3 := Chg.below ((B1.alloc hw1s _).alloc (by simp; omega) _) hC3 (by simp; omega) (by simp)
    have hE3 := (B3.cell (p := ⟨11, 0, none⟩) hEl).trans hE
    have HB3 := Lib.hid B3
    clear B3 B1 hC3 hE
    go_wp2
    go_ret
    exact ⟨rfl, HB3.out⟩
abbrev psRow (n : Int) : List Value := [.int .u16 41, .string ⟨#[]⟩, .slice none 0 0, .slice none 0 0, .slice none 0 0, .bool false, .int .u32 n, .bool false, .slice none 0 0, .slice none 0 0, .slice none 0 0, .slice none 0 0, .slice none 0 0]
abbrev zeroRow : List Value := [.int .u16 0, .string ⟨#[]⟩, .slice none 0 0, .slice none 0 0, .slice none 0 0, .bool false, .int .u32 0, .bool false, .slice none 0 0, .slice none 0 0, .slice none 0 0, .slice none 0 0, .slice none 0 0]
theorem ps_one (n : Int) : ((psRow n).toArray).all (·.oneCell') = true := by simp [Value.oneCell']
theorem zero_one : (zeroRow.toArray).all (·.oneCell') = true := by simp [Value.oneCell']
set_option maxRecDepth 100000 in
theorem data_any (b : Nat) (x : Int) (w : World) (hb : Blk w b 130 [.slice none 0 0, .slice none 0 0, .int .u16 x]) :
    Calls Tryd.prog 70 #[.pointer (some ⟨b, 0, none⟩)] w fun e w' => ∃ n, e = .returned (.agg (psRow n).toArray) ∧ Below w.heap.size w w' := by
  have hblt := hb.lt
  have c0 := hb.cell 0
  have c1 := hb.cell 1
  have c2 := hb.cell 2
  simp only [List.getElem?_cons_zero, List.getElem?_cons_succ] at c0 c1 c2
  have HB := Lib.hid hb
  clear hb
  go_enter Tryd.func70, Tryd.ntmps70
  go_wp2_with fail
  have HO0 := Lib.hid (Blk.new_at (w := w.alloc (.cells zeroRow.toArray 40)) (w.heap.size + 1) (by simp) 40 (psRow 0))
  have HR0 := Lib.hid ((Blk.new w 40 zeroRow).alloc (.cells (psRow 0).toArray 40))
  have HB0 := Lib.hid ((((Below.refl w.heap.size w).alloc (Nat.le_refl _) (.cells zeroRow.toArray 40)).alloc (by simp) (.cells (psRow 0).toArray 40)))
  have HK0 := Lib.hid ((HB.out.alloc (.cells zeroRow.toArray 40)).alloc (.cells (psRow 0).toArray 40))
  generalize ((w.alloc (.cells zeroRow.toArray 40)).alloc (.cells (psRow 0).toArray 40)) = W0 at HO0 HR0 HB0 HK0 ⊢
  clear c0 c1 c2
  have b1 : W0.cell? ⟨b, 1, none⟩ = some (.slice none 0 0) := HK0.out.cell 1
  have b2 : W0.cell? ⟨b, 2, none⟩ = some (.int .u16 x) := HK0.out.cell 2
  have k6 : W0.cell? ⟨w.heap.size + 1, 6, none⟩ = some (.int .u32 0) := HO0.out.cell 6
  have f6 := HO0.out.frozen 6
  have lo0 := HO0.out.lt
  have lb0 := HK0.out.lt
  go_loopw [5, 14] (fun _ i wr => i = .int .i64 0 ∧ wr = W0) (fun _ _ _ => 0)
  case atStart => exact ⟨rfl, rfl⟩
  case round =>
    obtain ⟨rfl, rfl⟩ := hrel
    go_wp2_with fail
    go_loopw [7, 35] (fun _ i ws => i = .int .i64 0 ∧ ws = wr) (fun _ _ _ => 0)
    case atStart => exact ⟨rfl, rfl⟩
    case round =>
      obtain ⟨rfl, rfl⟩ := hrel
      have HOs := Lib.hid (show Blk (wr.setCell ⟨w.heap.size + 1, 6, none⟩ (.int .u32 (x % 4294967296))) (w.heap.size + 1) 40 (psRow (x % 4294967296)) from HO0.out.set_ 6 (.int .u32 (x % 4294967296)))
      have HRs := Lib.hid (HR0.out.far (p := ⟨w.heap.size + 1, 6, none⟩) (Nat.ne_of_lt (Nat.lt_succ_self _)) (.int .u32 (x % 4294967296)))
      have HBs := Lib.hid (below_set HB0.out (p := ⟨w.heap.size + 1, 6, none⟩) (Nat.le_succ _) (.int .u32 (x % 4294967296)))
      go_wp2_with (first | (refine wpList_load_mid rfl _ (.tmp 3) rfl _ _ rfl (psRow (x % 4294967296)) _ HOs.out.rangeAt Tryd.underlying40 rfl (by kernel_rfl) ?_) | (refine wpList_store_blk HRs.out rfl (.tmp 2) (.tmp 53) rfl (psRow (x % 4294967296)).toArray rfl rfl rfl (by kernel_rfl) (ps_one _) ?_; intro w4 hr4 hg4; have HR4 := Lib.hid hr4; have HG4 := Lib.hid hg4; clear hr4 hg4))
      refine bodyPost_ret (ret_cell HR4.out rfl rfl Tryd.underlying40 rfl (by kernel_rfl)) rfl ?_
      first | exact ⟨_, rfl, below_only HBs.out HG4.out HBs.out.size (Nat.le_refl _)⟩ | exact ⟨⟨_, rfl⟩, below_only HBs.out HG4.out HBs.out.size (Nat.le_refl _)⟩
set_option maxRecDepth 100000 in
theorem read_ok (l : List UInt8) (w : World) (hl : l.length = 6) (h41 : be16 l = 41) (h2 : beN ((l.drop 2).take 2) = 2) :
    Calls Tryd.prog 30 #[.string (S l)] w fun e w' => ∃ n, e = .returned (.tuple #[.agg (psRow n).toArray, .bool true]) ∧ Below w.heap.size w w' := by
  have HL := Lib.hid hl
  clear hl
  go_enter Tryd.func30, Tryd.ntmps30
  go_wp2_with (refine wpList_bytes (o := ⟨some 10, _, _, _, _, _⟩) rfl _ rfl Tryd.underlying9 Tryd.underlying48 Tryd.underlying5 rfl (w.heap.size + 2) (by simp) ?_; intro cap w1 hcap hs1 hb1 hlt1 hx1; have HCAP := hide hcap; have HS1 := hide hs1; have HB1 := hide hb1; have HLT1 := hide hlt1; clear hcap hs1 hb1 hlt1 hx1)
  rw [HL.out]
  refine (unm_ok l (w.heap.size + 1) (w.heap.size + 2) cap w1 HL.out h41 h2 HCAP.out ((Blk.new_at (w.heap.size + 1) (by simp) 130 [.slice none 0 0, .slice none 0 0, .int .u16 0]).below HB1.out (by omega)) HS1.out (by omega)).mono ?_
  rintro e w2 ⟨rfl, ⟨x, hbk2⟩, hg2⟩
  have hr2 : Blk w2 w.heap.size 40 zeroRow :=
    (((Blk.new w 40 _).alloc _).below HB1.out (by omega)).grown hg2 (by simp)
  have HB := Lib.hid (show Below w.heap.size w w2 from (((Below.refl _ _).alloc (Nat.le_refl _) _).alloc (by simp) _).trans ((HB1.out.mono (by omega)).grown hg2 (by have := HLT1.out; omega) (fun k e => by injection e with e; omega)))
  have HK2 := hide hbk2
  have HR2 := hide hr2
  clear hr2 hbk2 hg2
  go_wp2_with fail
  refine (data_any (w.heap.size + 1) x w2 HK2.out).mono ?_
  rintro e w3 ⟨n, rfl, hb3⟩
  have hr3 := HR2.out.below hb3 HR2.out.lt
  have HB3 := Lib.hid (HB.out.trans (hb3.mono HB.out.size))
  have HR3 := hide hr3
  clear hr3 hb3
  go_wp2_with (refine wpList_store_blk HR3.out rfl (.tmp 2) (.tmp 16) rfl (psRow n).toArray rfl rfl rfl (by kernel_rfl) (ps_one _) ?_; intro w4 hr4 hg4; have HR4 := hide hr4; have HG4 := hide hg4; clear hr4 hg4)
  refine bodyPost_ret (ret_cell_tmp HR4.out rfl rfl Tryd.underlying40 rfl (by kernel_rfl)) rfl ?_
  exact ⟨⟨_, rfl⟩, below_only HB3.out HG4.out HB3.out.size (Nat.le_refl _)⟩
set_option maxRecDepth 100000 in
theorem read_bad (l : List UInt8) (w : World) (h : l.length < 2 ∨ (2 ≤ l.length ∧ be16 l = 41 ∧ ((l.drop 2).length < 2 ∨ (2 ≤ (l.drop 2).length ∧ (l.drop 2).length < 2 + beN ((l.drop 2).take 2))))) (hE1 : ErrAt 205 8 w) (hE2 : ErrAt 205 11 w) :
    Calls Tryd.prog 30 #[.string (S l)] w fun e w' => e = .returned (.tuple #[.agg zeroRow.toArray, .bool false]) ∧ Below w.heap.size w w' := by
  have HH := Lib.hid h
  have HE1 := Lib.hid hE1
  have HE2 := Lib.hid hE2
  clear h hE1 hE2
  go_enter Tryd.func30, Tryd.ntmps30
  go_wp2_with (refine wpList_bytes (o := ⟨some 10, _, _, _, _, _⟩) rfl _ rfl Tryd.underlying9 Tryd.underlying48 Tryd.underlying5 rfl (w.heap.size + 2) (by simp) ?_; intro cap w1 hcap hs1 hb1 hlt1 hx1; have HCAP := hide hcap; have HS1 := hide hs1; have HB1 := hide hb1; have HLT1 := hide hlt1; clear hcap hs1 hb1 hlt1 hx1)
  have HB := Lib.hid (show Below w.heap.size w w1 from (((Below.refl _ _).alloc (Nat.le_refl _) _).alloc (by simp) _).trans (HB1.out.mono (by omega)))
  have HR2 := Lib.hid (show Blk w1 w.heap.size 40 zeroRow from ((Blk.new w 40 _).alloc _).below HB1.out (by omega))
  have HP := Lib.hid ((Blk.new_at (w.heap.size + 1) (by simp) 130 [.slice none 0 0, .slice none 0 0, .int .u16 0]).below HB1.out (by omega))
  obtain ⟨x1, hx1⟩ := HE1.out.below HB.out
  obtain ⟨x2, hx2⟩ := HE2.out.below HB.out
  have hfin : ∃ x, Calls Tryd.prog 69 #[.pointer (some ⟨w.heap.size + 1, 0, none⟩), .slice (some ⟨w.heap.size + 2, 0, none⟩) l.length cap] w1 fun e w' => e = .returned (.iface 205 (.pointer (some x))) ∧ Below w1.heap.size w1 w' := by
    rcases HH.out with h | ⟨ha, hb, hc⟩
    · exact ⟨x1, unm_bad0 l _ _ cap x1 w1 h HCAP.out HP.out HS1.out hx1⟩
    · exact ⟨x2, unm_bad1 l _ _ cap x2 w1 ha hb hc HCAP.out HP.out HS1.out (by omega) hx2⟩
  obtain ⟨x, hx⟩ := hfin
  refine hx.mono ?_
  rintro e w2 ⟨rfl, hb2⟩
  have HB2 := Lib.hid (HB.out.trans (hb2.mono HB.out.size))
  have HR3 := Lib.hid (HR2.out.below hb2 HR2.out.lt)
  clear hb2 hx1 hx2 hx
  go_wp2_with (refine wpList_store_blk HR3.out rfl (.tmp 2) (.tmp 14) rfl zeroRow.toArray rfl rfl rfl (by kernel_rfl) zero_one ?_; intro w4 hr4 hg4; have HR4 := hide hr4; have HG4 := hide hg4; clear hr4 hg4)
  refine bodyPost_ret (ret_cell_tmp HR4.out rfl rfl Tryd.underlying40 rfl (by kernel_rfl)) rfl ?_
  exact ⟨rfl, below_only HB2.out HG4.out HB2.out.size (Nat.le_refl _)⟩
/-- The extension's bytes, and what its first k say. -/
def wire (n : Nat) : List UInt8 := extL 41 (bigL 2 n)
theorem wire_eq (n : Nat) : wire n = bigL 2 41 ++ (bigL 2 2 ++ bigL 2 n) := by simp [wire, extL, vecL, bigL_length]
theorem wire_length (n : Nat) : (wire n).length = 6 := by rw [wire_eq]; simp [bigL_length]
theorem wire_cut (n k : Nat) (h : k < 6) : ((wire n).take k).length < 2 ∨ (2 ≤ ((wire n).take k).length ∧ be16 ((wire n).take k) = 41 ∧ ((((wire n).take k).drop 2).length < 2 ∨ (2 ≤ (((wire n).take k).drop 2).length ∧ (((wire n).take k).drop 2).length < 2 + beN ((((wire n).take k).drop 2).take 2)))) := by
  by_cases h2 : k < 2
  · left; rw [List.length_take, wire_length]; omega
  · right
    have e1 : (wire n).take k = bigL 2 41 ++ (bigL 2 2 ++ bigL 2 n).take (k - 2) := by
      rw [wire_eq, List.take_append, bigL_length, List.take_of_length_le (by rw [bigL_length]; omega)]
    have e2 : ((wire n).take k).drop 2 = (bigL 2 2 ++ bigL 2 n).take (k - 2) := by rw [e1]; exact List.drop_left' (bigL_length 2 _)
    refine ⟨by rw [List.length_take, wire_length]; omega, by rw [e1]; exact be16_big 41 (by omega) _, ?_⟩
    rw [e2]
    by_cases h4 : k < 4
    · left; rw [List.length_take, List.length_append, bigL_length, bigL_length]; omega
    · right
      have e3 : (bigL 2 2 ++ bigL 2 n).take (k - 2) = bigL 2 2 ++ (bigL 2 n).take (k - 4) := by
        rw [List.take_append, bigL_length, List.take_of_length_le (by rw [bigL_length]; omega), show k - 2 - 2 = k - 4 by omega]
      have e4 : (bigL 2 2 ++ (bigL 2 n).take (k - 4)).take 2 = bigL 2 2 := List.take_left' (bigL_length 2 _)
      rw [e3, e4, beN_big 2 2 (by omega), List.length_append, bigL_length, List.length_take, bigL_length]
      omega

set_option maxRecDepth 100000 in
theorem walk (a0 : Int) (w0 : (Lit.int .u16 a0).wf = true) (a1 : Int) (w1 : (Lit.int .i64 a1).wf = true) (w : World)  (hE11 : ErrAt 205 11 w) (hE8 : ErrAt 205 8 w) (hE9 : ErrAt 205 9 w) (hE13 : ErrAt 205 13 w) :
    Calls Tryd.prog 9 #[.int .u16 a0, .int .i64 a1] w fun e w' => e = .returned (.bool true) ∧ Below w.heap.size w w' := by
  have b0 := bounds_u16 w0
  have b1 := bounds_i64 w1
  obtain ⟨n, rfl⟩ := Int.eq_ofNat_of_zero_le b0.1
  have hS := S_size
  have hX := S_extract
  have HE1 := hide hE8
  have HE2 := hide hE11
  clear hE11 hE8 hE9 hE13 w0 w1
  have hlen := wire_length n
  go_enter Tryd.func9, Tryd.ntmps9
  go_wp2_with fail
  refine (big_any n 2 _ (by omega) (by omega) (by omega) (by omega)).mono ?_
  rintro e w1 ⟨rfl, hb1⟩
  have HB1 := Lib.hid hb1
  clear hb1
  go_wp2_with fail
  refine (framedExt_any 41 (bigL 2 n) _ (by omega) (by omega) (by simp [bigL_length])).mono ?_
  rintro e w2 ⟨rfl, hb2⟩
  have HB2 := Lib.hid (HB1.out.trans (hb2.mono HB1.out.size))
  clear hb2
  have heq : extL (Int.toNat 41) (bigL 2 n) = wire n := rfl
  rw [heq]
  clear heq
  by_cases h0 : a1 < 1
  · go_wp2
    go_ret
    exact ⟨rfl, HB2.out⟩
  by_cases h5 : 6 < a1
  · go_wp2
    go_ret
    exact ⟨rfl, HB2.out⟩
  obtain ⟨k, rfl⟩ : ∃ k : Nat, a1 = 6 - (k : Int) := ⟨(6 - a1).toNat, by omega⟩
  have hk : IntKind.i64.wrap (6 - (6 - (k : Int))) = k := by rw [IntKind.wrap_i64]; omega
  have hk6 : k < 6 := by omega
  have hbe : be16 (wire n) = 41 := by rw [wire_eq]; exact be16_big 41 (by omega) _
  have hbn : beN (((wire n).drop 2).take 2) = 2 := by
    rw [wire_eq, List.drop_left' (bigL_length 2 _), List.take_left' (bigL_length 2 _)]
    exact beN_big 2 2 (by omega)
  have HBE := Lib.hid hbe
  have HBN := Lib.hid hbn
  clear hbe hbn
  go_wp2_with fail
  refine (read_ok (wire n) w2 hlen HBE.out HBN.out).mono ?_
  rintro e w3 ⟨m, rfl, hb3⟩
  have HB3 := Lib.hid (HB2.out.trans (hb3.mono HB2.out.size))
  clear hb3
  go_wp2_with fail
  refine (read_bad ((wire n).take k) _ (wire_cut n k hk6) (by exact HE1.out.below (HB3.out.alloc HB3.out.size _)) (by exact HE2.out.below (HB3.out.alloc HB3.out.size _))).mono ?_
  rintro e w4 ⟨rfl, hb4⟩
  have HB4 := Lib.hid ((HB3.out.alloc HB3.out.size _).trans (hb4.mono (by have := HB3.out.size; simp; omega)))
  clear hb4
  go_wp2
  go_ret
  exact ⟨rfl, HB4.out.alloc HB4.out.size _⟩
abbrev laidL : List (String × DataW Unit) := [("pub-convoy/pub/dtls/pkg/protocol/extension.errBufferTooSmall", Rows.laid_pub_convoy_pub_dtls_pkg_protocol_extension_errBufferTooSmall), ("pub-convoy/pub/dtls/pkg/protocol/extension.errInvalidExtensionType", Rows.laid_pub_convoy_pub_dtls_pkg_protocol_extension_errInvalidExtensionType), ("pub-convoy/pub/dtls/pkg/protocol/extension.errLengthMismatch", Rows.laid_pub_convoy_pub_dtls_pkg_protocol_extension_errLengthMismatch), ("pub-convoy/pub/dtls/pkg/protocol/extension.errPreSharedKeyFormat", Rows.laid_pub_convoy_pub_dtls_pkg_protocol_extension_errPreSharedKeyFormat)]
theorem door_met (os : Os) (args : Array Value) : laidMetH Tryd.prog laidL ((World.doorLaid Tryd.prog 323 os).forCall (fun _ _ => 0) ⟨#[], args, []⟩).memory :=
  laidMetH_of_parts3 (fuel := 8) (laidMet_of_run' 8 (by kernel_rfl) (by kernel_rfl)) (by kernel_rfl) (by kernel_rfl)
theorem of_laid {W : World} (h : laidMetH Tryd.prog laidL W) : ErrAt 205 11 W ∧ ErrAt 205 8 W ∧ ErrAt 205 9 W ∧ ErrAt 205 13 W := by
  rw [MakeChecks.laidMetH_plain _ _ _ (by kernel_rfl)] at h
  have k0 := errAt_of_laid h (show Tryd.prog.globalNamed "pub-convoy/pub/dtls/pkg/protocol/extension.errBufferTooSmall" = some 11 by kernel_rfl) (by kernel_rfl)
  have h1 := h.tail
  have k1 := errAt_of_laid h1 (show Tryd.prog.globalNamed "pub-convoy/pub/dtls/pkg/protocol/extension.errInvalidExtensionType" = some 8 by kernel_rfl) (by kernel_rfl)
  have h2 := h1.tail
  have k2 := errAt_of_laid h2 (show Tryd.prog.globalNamed "pub-convoy/pub/dtls/pkg/protocol/extension.errLengthMismatch" = some 9 by kernel_rfl) (by kernel_rfl)
  have h3 := h2.tail
  have k3 := errAt_of_laid h3 (show Tryd.prog.globalNamed "pub-convoy/pub/dtls/pkg/protocol/extension.errPreSharedKeyFormat" = some 13 by kernel_rfl) (by kernel_rfl)
  exact ⟨k0, k1, k2, k3⟩
set_option maxRecDepth 100000 in
theorem lifted (os : Os) (started : os.Started) (H : Type) (enc : TypeId × Value → H) :
    ReturnsInHanded {} Tryd.checked os 9 .any (fun w args => (Rows.fnPreSharedKeySelectedCutSpec.pre enc Tryd.prog Tryd.f9 [] false w args ∧ laidMetH Tryd.prog laidL w) ∧ sizedMet enc Tryd.prog Tryd.f9 (OpenSpec.ofChange Rows.fnPreSharedKeySelectedCutSpec) false w args)
      (Rows.fnPreSharedKeySelectedCutSpec.post enc Tryd.prog Tryd.f9 false true false false) := by
  refine returnsInHanded_of_change_and (C := Tryd.checked) (X := fun w _ => laidMetH Tryd.prog laidL w) (fun _ _ _ hh h => h.of_heap hh) own started (by kernel_rfl) Tryd.func9
    (ChangeSpec.witness_shaped (enc := enc) (C := Tryd.checked) (os := os) (X := fun w _ => laidMetH Tryd.prog laidL w) false (World.doorLaid Tryd.prog 323 os) #[.int .u16 0, .int .i64 0] 8 rfl (World.shaped_of_RefB (by kernel_rfl) (by kernel_rfl)) (by kernel_rfl) (by kernel_rfl) (by kernel_rfl) (door_met os _)) ?_
  intro W base args ds gs before hval0 hW _ _ hL _
  obtain ⟨hE11, hE8, hE9, hE13⟩ := of_laid hL
  have hval : ∀ (j : Nat) t v, Tryd.f9.params[j]? = some t → args[j]? = some v → Value.okWide Tryd.prog W .any base t v := hval0
  have hW' := hW
  obtain ⟨p, q, hA0, hV, rfl, hfz, hnd⟩ := hW
  have hA : DataW.TrodAll enc Tryd.prog W 0 (fun _ => true) true Tryd.f9.params.toList args.toList ds p := hA0
  rw [Tryd.params9] at hA hval
  obtain ⟨v0, vs0, d0, ds0, p0, q0, hargs, rfl, rfl, h0, r0⟩ := trodAll_cons hA
  obtain ⟨v1, vs1, d1, ds1, p1, q1, rfl, rfl, rfl, h1, r1⟩ := trodAll_cons r0
  obtain ⟨rfl, rfl, rfl⟩ := trodAll_nil r1
  obtain rfl : args = #[v0, v1] := by cases args; simp_all
  obtain ⟨rfl, rfl⟩ := trodVars_none hV
  obtain ⟨a0, rfl, rfl, rfl, w0⟩ := open_int Tryd.underlying22 (hval 0 22 v0 rfl rfl) h0
  obtain ⟨a1, rfl, rfl, rfl, w1⟩ := open_int Tryd.underlying3 (hval 1 3 v1 rfl rfl) h1
  clear hA0 hval0
  refine (walk a0 w0 a1 w1 W hE11 hE8 hE9 hE13).mono fun e W' ⟨he, hb⟩ => ?_
  subst he
  exact ⟨_, rfl, law_post laidOut (by kernel_rfl) rfl Tryd.underlying4 rfl hW' rfl rfl rfl hb⟩

theorem over : Rows.fnPreSharedKeySelectedCutRow.holds Tryd.pinned (OpenSpec.ofChange Rows.fnPreSharedKeySelectedCutSpec) :=
  OpenClaim.holds_of_wide 9 Tryd.f9 rfl rfl rfl rfl rfl rfl rfl ⟨rfl, rfl, rfl, rfl, rfl⟩ rfl rfl rfl rfl rfl (by kernel_rfl) Tryd.func9 (by kernel_rfl)
    (of_decide_eq_true (by kernel_rfl)) (by unfold Func.isWrapper; first | (rw [if_pos (by decide +kernel)]; kernel_rfl) | (rw [if_neg (by decide +kernel)]; exact ⟨rfl, rfl⟩))
    (fun os started H enc _ => lifted os started H enc)

/-- THE STATEMENT: the tied card. -/
theorem proved : Rows.FnPreSharedKeySelectedCutCardSaid :=
  Claim7.holds_tied_plain_at .later [] [.sentinel, .sentinel, .sentinel, .sentinel] true (true, "20b3b98fcc8707e4b2223a6ae671195b166d92b4110cce829ed6e3bbef5fa288") false
    over (fun _ h => by cases h) (by kernel_rfl) (fun _ h => by cases h) fnPreSharedKeySelectedCut_row_tie rfl ⟨rfl, rfl⟩ (by kernel_rfl) rfl
    (fun f fn hf hfn => by
      obtain rfl : f = 9 := Option.some.inj ((show Tryd.prog.funcNamed "pub-convoy/laws.FnPreSharedKeySelectedCut" = some 9 by kernel_rfl).symm.trans hf) |>.symm
      obtain rfl : fn = Tryd.f9 := (Option.some.inj (Tryd.func9.symm.trans hfn)).symm
      exact ⟨by kernel_rfl, fun j t ht => by
        rw [Tryd.params9] at ht
        have hm : t ∈ [22, 3] := by simpa using Array.mem_of_getElem? ht
        have hall : ([22, 3].all fun u => !Tryd.prog.wantsStandIn u) = true := by kernel_rfl
        exact (show Tryd.prog.wantsStandIn t = false by simpa using List.all_eq_true.1 hall t hm)⟩)
    (by kernel_rfl)
#print axioms proved

end Go.Proofs.YthfpfakdchhodaaDoor.fnPreSharedKeySelectedCut
