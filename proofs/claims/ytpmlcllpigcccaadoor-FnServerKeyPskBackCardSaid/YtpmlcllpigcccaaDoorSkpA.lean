/- FnServerKeyPskBack, the first part: the message is read: for every hint ServerKeyRead returns it. -/
import Derived.Test.YtpmlcllpigcccaaDoorDoor
import Derived.Test.YtpmlcllpigcccaaDoorSameMsg
import Derived.Test.YtpmlcllpigcccaaDoorAppendStr
import Derived.StillTailTactics
import Derived.Deep.RegionHeld3
import Derived.Deep.RegionWith
import Derived.RegionTactic
import Derived.BigRegion
import Derived.BigFrame
import Derived.Great.Ranges
import Derived.Great.BuildSlice
namespace Go.Proofs.YtpmlcllpigcccaaDoor.fnServerKeyPskBack
open Go.ChangeShapes Go.WideShapes Go.ChangeAt Go.RowKit Go.Proofs.YtpmlcllpigcccaaDoor
open Go.ChangeMaps (open_string shut_string)
set_option linter.unusedVariables false

theorem has_any (a b : Int) (w : World) : Calls Tryd.prog 110 #[.int .i64 a, .int .i64 b] w fun e w' => e = .returned (.bool (bits .and .i64 a b == b)) ∧ w = w' := by
  go_enter Tryd.func110, Tryd.ntmps110
  go_wp2
  go_ret
  exact ⟨rfl, rfl⟩
abbrev skRow (hint pub sig : Value) (ct cu ha sg kx : Int) : List Value := [hint, .int .u8 ct, .int .u16 cu, pub, .int .u16 ha, .int .u16 sg, sig, .int .i64 kx]
set_option maxRecDepth 100000 in
theorem unm_ok (l : List UInt8) (b B cap : Nat) (w : World) (hl0 : 0 < l.length) (hl : l.length < 60000) (hcap : 2 + l.length ≤ cap) (hb : Blk w b 141 (skRow (.slice none 0 0) (.slice none 0 0) (.slice none 0 0) 0 0 0 0 2)) (hs : Sl w (some ⟨B, 0, none⟩) (cells8 (vecL l 2))) (hne : B ≠ b) :
    Calls Tryd.prog 80 #[.pointer (some ⟨b, 0, none⟩), .slice (some ⟨B, 0, none⟩) (2 + l.length) cap] w fun e w' => ∃ g c, e = .returned .nilIface ∧ Blk w' b 141 (skRow (.slice (some ⟨g, 0, none⟩) l.length c) (.slice none 0 0) (.slice none 0 0) 0 0 0 0 2) ∧ Sl w' (some ⟨g, 0, none⟩) (cells8 l) ∧ g ≠ b ∧ w.grownBy w' (some b) := by
  have HB := hide hb
  have HS := hide hs
  have c0 := hb.cell 0
  have c7 := hb.cell 7
  have z0 := hb.frozen 0
  have hblt := hb.lt
  simp only [List.getElem?_cons_zero, List.getElem?_cons_succ] at c0 c7
  have hbe : be16 (vecL l 2) = l.length := be16_big l.length (by omega) _
  clear hb hs
  go_enter Tryd.func80, Tryd.ntmps80
  go_wp2_with fail
  refine (get16 B 0 _ _ (vecL l 2) _ (by omega) (by simp [vecL, bigL_length]) HS.out).mono ?_
  rintro e w1 ⟨rfl, hb1⟩
  have HB1 := Lib.hid hb1
  rw [hbe]
  have c01 := keep_cell hb1 c0
  have c71 := keep_cell hb1 c7
  have HS1 := Lib.hid (HS.out.below hb1)
  clear hb1 c0 c7
  have hle : (l.length : Int) ≤ 2 + (l.length : Int) - 2 := by omega
  have hz1 := (HB1.out.frozen (p := ⟨b, 0, none⟩) hblt).trans z0
  have hlt1 : b < w1.heap.size := Nat.lt_of_lt_of_le hblt HB1.out.size
  have hsz : (2 : Int) + (l.length : Int) ≤ (cap : Int) := by omega
  go_wp2_with fail
  refine (has_any 2 2 w1).mono ?_
  rintro e w2 ⟨rfl, rfl⟩
  have hbits : (bits .and .i64 2 2 == 2) = true := by rfl
  rw [hbits]
  clear hbits
  have HO : Hid ((w1.alloc (.cells (#[] : Array Value) 5)).ownsRow w1.heap.size 5 1 (.slice (some ⟨w1.heap.size, 0, none⟩) 0 0) 0 []) :=
    hide ((Blk.new w1 5 []).to_own (rest := []) (Nat.le_refl _) rfl rfl (by decide))
  have HSd : Hid (Sl (w1.alloc (.cells (#[] : Array Value) 5)) (some ⟨B, 2, none⟩) (cells8 l)) := by
    have h := (HS1.out.drop 2).below ((Below.refl _ _).alloc (Nat.le_refl _) (.cells (#[] : Array Value) 5))
    have e : (cells8 (vecL l 2)).drop 2 = cells8 l := by rw [← cells8_drop]; rfl
    rw [e, Nat.zero_add] at h
    exact hide h
  go_wp2_with (at_builtin; refine wpList_append el8 rfl _ _ rfl rfl HO.out rfl (by simp [cells8_length]) HSd.out (cells8_one l) (by omega) (by unfold maxLen; omega) (by simp) ?_; intro v5 w5 hown5 hg5 hb5 hat5; obtain ⟨g5, c5, rfl, hc5, hm5, hge5, hg5l⟩ := own_form hown5 (by omega); have HB5 := Lib.hid (show Below w1.heap.size w1 w5 from ((Below.refl _ _).alloc (Nat.le_refl _) _).trans hb5); have HO5 := Lib.hid hown5; have c05 := keep_cell HB5.out c01; have c75 := keep_cell HB5.out c71; have hz5 := (HB5.out.frozen (p := ⟨b, 0, none⟩) hlt1).trans hz1; clear hown5 hg5 hb5 hat5 c01 c71 hz1)
  all_goals
    go_ret
    have e2 : 0 + (2 + l.length - 2) = l.length := by omega
    simp only [e2, List.nil_append] at HO5 ⊢
    have HBw := HB1.out.trans (HB5.out.mono HB1.out.size)
    have hgb : g5 ≠ b := by omega
    exact ⟨rfl, g5, ⟨c5, (HB.out.below HBw hblt).set_ 0 _⟩, (Sl.of_own HO5.out).setCell_far (fun b' o e => by injection e with e; injection e with e1; subst e1; exact hgb) _, hgb, only_setCell (only_of_below HBw _) (.inl rfl) _⟩

abbrev skMsg (l : List UInt8) : Array Value := (msgRow 12 false 0 0 0 ⟨#[]⟩ ⟨#[]⟩ ⟨#[]⟩ (.slice none 0 0) (.slice none 0 0) (.slice none 0 0) (.slice none 0 0) (.slice none 0 0) (.slice none 0 0) 0 0 ⟨#[]⟩ (S l) ⟨#[]⟩ 2 0 0 ⟨#[]⟩ ⟨#[]⟩ (.slice none 0 0)).toArray
theorem msg_one (l : List UInt8) : (skMsg l).all (·.oneCell') = true := by simp [skMsg, Value.oneCell']
theorem below_set {B : Nat} {w w' : World} (h : Below B w w') {p : Addr} (hp : B ≤ p.block) (u : Value) : Below B w (w'.setCell p u) :=
  ⟨h.os, h.tape, h.output, by simpa [World.setCell] using h.size, fun k hk => (Below.heap_setCell w' p u k (by omega)).trans (h.block k hk)⟩
theorem str_nil (W : World) : (convert 31 9 (.slice none 0 0)).run Tryd.prog W = .ok (.string ⟨#[]⟩) W :=
  run_string_of (P := Tryd.prog) W Tryd.underlying31 Tryd.underlying5 Tryd.underlying9 (c := 0) (n := 0) (l := []) rfl (Sl.nil_ _ _)
/-- What the reader of the message asks of memory: the message's cells, and the hint's bytes. -/
def Held (b g : Nat) (row : List Value) (l : List UInt8) (w : World) : Prop := (∀ i, w.cell? ⟨b, i, none⟩ = row[i]?) ∧ Sl w (some ⟨g, 0, none⟩) (cells8 l)
theorem Held.set_ {b g r k : Nat} {row : List Value} {l : List UInt8} {w : World} (h : (∀ i, w.cell? ⟨b, i, none⟩ = row[i]?) ∧ Sl w (some ⟨g, 0, none⟩) (cells8 l)) (hb : b ≠ r) (hg : g ≠ r) (v : Value) :
    (∀ i, (w.setCell ⟨r, k, none⟩ v).cell? ⟨b, i, none⟩ = row[i]?) ∧ Sl (w.setCell ⟨r, k, none⟩ v) (some ⟨g, 0, none⟩) (cells8 l) :=
  ⟨fun i => (World.cell?_setCell_far w _ _ v (Ne.symm hb)).trans (h.1 i), h.2.setCell_far (fun b' o e => by injection e with e; injection e with e1; subst e1; exact hg) _⟩
abbrev zeroMsg : List Value := msgRow 0 false 0 0 0 ⟨#[]⟩ ⟨#[]⟩ ⟨#[]⟩ (.slice none 0 0) (.slice none 0 0) (.slice none 0 0) (.slice none 0 0) (.slice none 0 0) (.slice none 0 0) 0 0 ⟨#[]⟩ ⟨#[]⟩ ⟨#[]⟩ 0 0 0 ⟨#[]⟩ ⟨#[]⟩ (.slice none 0 0)
set_option maxHeartbeats 4000000 in
set_option maxRecDepth 100000 in
theorem data_any (l : List UInt8) (b g c : Nat) (w : World) (hl0 : 0 < l.length) (hb : Blk w b 141 (skRow (.slice (some ⟨g, 0, none⟩) l.length c) (.slice none 0 0) (.slice none 0 0) 0 0 0 0 2)) (hs : Sl w (some ⟨g, 0, none⟩) (cells8 l)) :
    Calls Tryd.prog 81 #[.pointer (some ⟨b, 0, none⟩)] w fun e w' => e = .returned (.agg (msgRow 12 false 0 0 0 ⟨#[]⟩ ⟨#[]⟩ ⟨#[]⟩ (.slice none 0 0) (.slice none 0 0) (.slice none 0 0) (.slice none 0 0) (.slice none 0 0) (.slice none 0 0) 0 0 ⟨#[]⟩ (S l) ⟨#[]⟩ 2 0 0 ⟨#[]⟩ ⟨#[]⟩ (.slice none 0 0)).toArray) ∧ Below w.heap.size w w' := by
  have hblt := hb.lt
  have hgl : g < w.heap.size := by
    obtain ⟨b', o', e, hc⟩ := hs 0 _ (cells8_get l 0 hl0)
    injection e with e; injection e with e1 e2; subst e1
    exact World.block_lt_of_cell? w _ hc
  have hsn := str_nil
  have hst : ∀ W : World, Sl W (some ⟨g, 0, none⟩) (cells8 l) → (convert 31 9 (.slice (some ⟨g, 0, none⟩) l.length c)).run Tryd.prog W = .ok (.string (S l)) W := fun W h => run_string_of (P := Tryd.prog) W Tryd.underlying31 Tryd.underlying5 Tryd.underlying9 rfl h
  have HB := Lib.hid hb
  have HS := Lib.hid hs
  have hbn1 : b ≠ w.heap.size + 1 := by omega
  have hgn1 : g ≠ w.heap.size + 1 := by omega
  clear hb hs
  go_enter Tryd.func81, Tryd.ntmps81
  go_wp2_with (first | (refine Go.Great.wpList_buildTo rfl 37 _ rfl (some 4) rfl (msgRow 12 false 0 0 0 ⟨#[]⟩ ⟨#[]⟩ ⟨#[]⟩ (.slice none 0 0) (.slice none 0 0) (.slice none 0 0) (.slice none 0 0) (.slice none 0 0) (.slice none 0 0) 0 0 ⟨#[]⟩ ⟨#[]⟩ ⟨#[]⟩ 0 0 0 ⟨#[]⟩ ⟨#[]⟩ (.slice none 0 0)).toArray (by kernel_rfl) ?_) | (refine wpList_store_blk (Blk.new_at (w.heap.size + 1) (by simp) 37 zeroMsg) rfl (.tmp 3) (.tmp 4) rfl (msgRow 12 false 0 0 0 ⟨#[]⟩ ⟨#[]⟩ ⟨#[]⟩ (.slice none 0 0) (.slice none 0 0) (.slice none 0 0) (.slice none 0 0) (.slice none 0 0) (.slice none 0 0) 0 0 ⟨#[]⟩ ⟨#[]⟩ ⟨#[]⟩ 0 0 0 ⟨#[]⟩ ⟨#[]⟩ (.slice none 0 0)).toArray rfl rfl rfl (by kernel_rfl) (by simp [Value.oneCell']) ?_; intro W0 hO hG; have HO := Lib.hid hO; have HR := Lib.hid (((Blk.new w 37 zeroMsg).alloc _).grown hG (by simp)); have HW := Lib.hid (below_only (((Below.refl w.heap.size w).alloc (Nat.le_refl _) _).alloc (by simp) _) hG (by simp; omega) (by omega)); clear hO hG))
  have HA := Lib.hid (HB.out.below HW.out hblt)
  have HT := Lib.hid (HS.out.below HW.out)
  have k16 : W0.cell? ⟨w.heap.size + 1, 16, none⟩ = some (.string ⟨#[]⟩) := HO.out.cell 16
  have k17 : W0.cell? ⟨w.heap.size + 1, 17, none⟩ = some (.string ⟨#[]⟩) := HO.out.cell 17
  have k18 : W0.cell? ⟨w.heap.size + 1, 18, none⟩ = some (.string ⟨#[]⟩) := HO.out.cell 18
  have f16 := HO.out.frozen 16
  have f17 := HO.out.frozen 17
  have f18 := HO.out.frozen 18
  have b0 : W0.cell? ⟨b, 0, none⟩ = some (.slice (some ⟨g, 0, none⟩) l.length c) := HA.out.cell 0
  have b3 : W0.cell? ⟨b, 3, none⟩ = some (.slice none 0 0) := HA.out.cell 3
  have b6 : W0.cell? ⟨b, 6, none⟩ = some (.slice none 0 0) := HA.out.cell 6
  have hst0 := hst W0 HT.out
  have hst1 := hst W0.drew HT.out
  have hb0 := HA.out.lt
  have ho0 := HO.out.lt
  clear hst
  go_region
  have HO1 := Lib.hid (((HO.out.set_ 17 (.string (S l))).set_ 18 (.string ⟨#[]⟩)).set_ 16 (.string ⟨#[]⟩)).drew
  have HA1 := Lib.hid (((HA.out.far (p := ⟨w.heap.size + 1, 17, none⟩) hbn1 (.string (S l))).far (p := ⟨w.heap.size + 1, 18, none⟩) hbn1 (.string ⟨#[]⟩)).far (p := ⟨w.heap.size + 1, 16, none⟩) hbn1 (.string ⟨#[]⟩)).drew
  have hrn : w.heap.size ≠ w.heap.size + 1 := by omega
  have HR1 := Lib.hid (((HR.out.far (p := ⟨w.heap.size + 1, 17, none⟩) hrn (.string (S l))).far (p := ⟨w.heap.size + 1, 18, none⟩) hrn (.string ⟨#[]⟩)).far (p := ⟨w.heap.size + 1, 16, none⟩) hrn (.string ⟨#[]⟩)).drew
  have HW1 := Lib.hid (below_set (p := ⟨w.heap.size + 1, 16, none⟩) (below_set (p := ⟨w.heap.size + 1, 18, none⟩) (below_set (p := ⟨w.heap.size + 1, 17, none⟩) HW.out (Nat.le_succ _) (.string (S l))) (Nat.le_succ _) (.string ⟨#[]⟩)) (Nat.le_succ _) (.string ⟨#[]⟩)).drew
  simp only [List.set_cons_zero, List.set_cons_succ] at HO1
  clear k16 k17 k18 f16 f17 f18 b0 b3 b6 hst0 hst1 hb0 ho0 HO HW HA HT HB HS HR hsn
  generalize (((W0.setCell ⟨w.heap.size + 1, 17, none⟩ (.string (S l))).setCell ⟨w.heap.size + 1, 18, none⟩ (.string ⟨#[]⟩)).setCell ⟨w.heap.size + 1, 16, none⟩ (.string ⟨#[]⟩)).drew = W1 at HO1 HA1 HW1 HR1 ⊢
  have k14 : W1.cell? ⟨w.heap.size + 1, 14, none⟩ = some (.int .u16 0) := HO1.out.cell 14
  have k15 : W1.cell? ⟨w.heap.size + 1, 15, none⟩ = some (.int .u16 0) := HO1.out.cell 15
  have k19 : W1.cell? ⟨w.heap.size + 1, 19, none⟩ = some (.int .i64 0) := HO1.out.cell 19
  have k20 : W1.cell? ⟨w.heap.size + 1, 20, none⟩ = some (.int .u8 0) := HO1.out.cell 20
  have k21 : W1.cell? ⟨w.heap.size + 1, 21, none⟩ = some (.int .u16 0) := HO1.out.cell 21
  have f14 := HO1.out.frozen 14
  have f15 := HO1.out.frozen 15
  have f19 := HO1.out.frozen 19
  have f20 := HO1.out.frozen 20
  have f21 := HO1.out.frozen 21
  have b1 : W1.cell? ⟨b, 1, none⟩ = some (.int .u8 0) := HA1.out.cell 1
  have b2 : W1.cell? ⟨b, 2, none⟩ = some (.int .u16 0) := HA1.out.cell 2
  have b4 : W1.cell? ⟨b, 4, none⟩ = some (.int .u16 0) := HA1.out.cell 4
  have b5 : W1.cell? ⟨b, 5, none⟩ = some (.int .u16 0) := HA1.out.cell 5
  have b7 : W1.cell? ⟨b, 7, none⟩ = some (.int .i64 2) := HA1.out.cell 7
  have hb1 := HA1.out.lt
  have ho1 := HO1.out.lt
  go_wp2
  go_region
  have HO2 := Lib.hid ((((HO1.out.set_ 20 (.int .u8 0)).set_ 21 (.int .u16 0)).set_ 14 (.int .u16 0)).set_ 15 (.int .u16 0) |>.set_ 19 (.int .i64 2)).drew
  have HR2 := Lib.hid ((((HR1.out.far (p := ⟨w.heap.size + 1, 20, none⟩) hrn (.int .u8 0)).far (p := ⟨w.heap.size + 1, 21, none⟩) hrn (.int .u16 0)).far (p := ⟨w.heap.size + 1, 14, none⟩) hrn (.int .u16 0)).far (p := ⟨w.heap.size + 1, 15, none⟩) hrn (.int .u16 0) |>.far (p := ⟨w.heap.size + 1, 19, none⟩) hrn (.int .i64 2)).drew
  have HW2 := Lib.hid (below_set (p := ⟨w.heap.size + 1, 19, none⟩) (below_set (p := ⟨w.heap.size + 1, 15, none⟩) (below_set (p := ⟨w.heap.size + 1, 14, none⟩) (below_set (p := ⟨w.heap.size + 1, 21, none⟩) (below_set (p := ⟨w.heap.size + 1, 20, none⟩) HW1.out (Nat.le_succ _) (.int .u8 0)) (Nat.le_succ _) (.int .u16 0)) (Nat.le_succ _) (.int .u16 0)) (Nat.le_succ _) (.int .u16 0)) (Nat.le_succ _) (.int .i64 2)).drew
  simp only [List.set_cons_zero, List.set_cons_succ] at HO2
  clear k14 k15 k19 k20 k21 f14 f15 f19 f20 f21 b1 b2 b4 b5 b7 hb1 ho1 HO1 HW1 HA1 HR1
  generalize (((((W1.setCell ⟨w.heap.size + 1, 20, none⟩ (.int .u8 0)).setCell ⟨w.heap.size + 1, 21, none⟩ (.int .u16 0)).setCell ⟨w.heap.size + 1, 14, none⟩ (.int .u16 0)).setCell ⟨w.heap.size + 1, 15, none⟩ (.int .u16 0)).setCell ⟨w.heap.size + 1, 19, none⟩ (.int .i64 2)).drew = W2 at HO2 HW2 HR2 ⊢
  go_wp2_with (refine wpList_load_mid rfl _ (.tmp 3) rfl _ _ rfl (msgRow 12 false 0 0 0 ⟨#[]⟩ ⟨#[]⟩ ⟨#[]⟩ (.slice none 0 0) (.slice none 0 0) (.slice none 0 0) (.slice none 0 0) (.slice none 0 0) (.slice none 0 0) 0 0 ⟨#[]⟩ (S l) ⟨#[]⟩ 2 0 0 ⟨#[]⟩ ⟨#[]⟩ (.slice none 0 0)) _ HO2.out.rangeAt Tryd.underlying37 rfl (by kernel_rfl) ?_; refine wpList_store_blk HR2.out rfl (.tmp 2) (.tmp 48) rfl (skMsg l) rfl rfl rfl (by kernel_rfl) (msg_one l) ?_; intro w4 hr4 hg4; have HR4 := Lib.hid hr4; have HG4 := Lib.hid hg4; clear hr4 hg4)
  refine bodyPost_ret (ret_cell HR4.out rfl rfl Tryd.underlying37 rfl (by kernel_rfl)) rfl ?_
  exact ⟨rfl, below_only HW2.out HG4.out HW2.out.size (Nat.le_refl _)⟩
set_option maxRecDepth 100000 in
theorem read_ok (l : List UInt8) (w : World) (hl0 : 0 < l.length) (hl : l.length < 60000) :
    Calls Tryd.prog 43 #[.int .i64 2, .string (S (vecL l 2))] w fun e w' => e = .returned (.tuple #[.agg (skMsg l), .bool true]) ∧ Below w.heap.size w w' := by
  have hvl := vecL_length l 2
  go_enter Tryd.func43, Tryd.ntmps43
  go_wp2_with (refine wpList_bytes (o := ⟨some 13, _, _, _, _, _⟩) rfl _ rfl Tryd.underlying9 Tryd.underlying31 Tryd.underlying5 rfl (w.heap.size + 2) (by simp) ?_; intro cap w1 hcap hs1 hb1 hlt1 hx1; have HCAP := hide hcap; have HS1 := hide hs1; have HB1 := hide hb1; have HLT1 := hide hlt1; clear hcap hs1 hb1 hlt1 hx1)
  refine (unm_ok l (w.heap.size + 1) (w.heap.size + 2) cap w1 hl0 hl (by have := HCAP.out; omega) ((Blk.new_at (w.heap.size + 1) (by simp) 141 (skRow (.slice none 0 0) (.slice none 0 0) (.slice none 0 0) 0 0 0 0 2)).below HB1.out (by omega)) HS1.out (by omega)).mono ?_
  rintro e w2 ⟨g, c, rfl, hbk2, hs2, hgne, hg2⟩
  have hr2 : Blk w2 w.heap.size 37 zeroMsg :=
    (((Blk.new w 37 zeroMsg).alloc _).below HB1.out (by omega)).grown hg2 (by simp)
  have HB := Lib.hid (show Below w.heap.size w w2 from (((Below.refl _ _).alloc (Nat.le_refl _) _).alloc (by simp) _).trans ((HB1.out.mono (by omega)).grown hg2 (by have := HLT1.out; omega) (fun k e => by injection e with e; omega)))
  have HR2 := hide hr2
  have HK2 := hide hbk2
  have HS2 := hide hs2
  clear hr2 hbk2 hg2 hs2
  go_wp2_with fail
  refine (data_any l (w.heap.size + 1) g c w2 hl0 HK2.out HS2.out).mono ?_
  rintro e w3 ⟨rfl, hb3⟩
  have hr3 := HR2.out.below hb3 HR2.out.lt
  have HB3 := Lib.hid (HB.out.trans (hb3.mono HB.out.size))
  have HR3 := hide hr3
  clear hr3 hb3
  go_wp2_with (refine wpList_store_blk HR3.out rfl (.tmp 4) (.tmp 19) rfl (skMsg l) rfl rfl rfl (by kernel_rfl) (msg_one _) ?_; intro w4 hr4 hg4; have HR4 := hide hr4; have HG4 := hide hg4; clear hr4 hg4)
  refine bodyPost_ret (ret_cell_tmp HR4.out rfl rfl Tryd.underlying37 rfl (by kernel_rfl)) rfl ?_
  exact ⟨rfl, below_only HB3.out HG4.out HB3.out.size (Nat.le_refl _)⟩

end Go.Proofs.YtpmlcllpigcccaaDoor.fnServerKeyPskBack
