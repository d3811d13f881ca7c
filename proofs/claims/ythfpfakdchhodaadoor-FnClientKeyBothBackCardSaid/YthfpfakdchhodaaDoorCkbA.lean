/- FnClientKeyBothBack, the first part: the message is read: for every hint and public key ClientKeyRead returns it. -/
import Derived.Test.YthfpfakdchhodaaDoorDoor
import Derived.Test.YthfpfakdchhodaaDoorSameMsg
import Derived.Test.YthfpfakdchhodaaDoorAppendStr
import Derived.StillTailTactics
import Derived.Deep.RegionHeld3
import Derived.Deep.RegionWith
import Derived.RegionTactic
import Derived.BigRegion
import Derived.BigFrame
import Derived.Great.Ranges
import Derived.Great.BuildSlice
namespace Go.Proofs.YthfpfakdchhodaaDoor.fnClientKeyBothBack
open Go.ChangeShapes Go.WideShapes Go.ChangeAt Go.RowKit Go.Proofs.YthfpfakdchhodaaDoor
open Go.ChangeMaps (open_string shut_string)
set_option linter.unusedVariables false

theorem has_any (a b : Int) (w : World) : Calls Tryd.prog 106 #[.int .i64 a, .int .i64 b] w fun e w' => e = .returned (.bool (bits .and .i64 a b == b)) ∧ w = w' := by
  go_enter Tryd.func106, Tryd.ntmps106
  go_wp2
  go_ret
  exact ⟨rfl, rfl⟩
/-- The message's bytes. -/
def both (h p : List UInt8) : List UInt8 := vecL h 2 ++ vecL p 1
theorem both_length (h p : List UInt8) : (both h p).length = 3 + h.length + p.length := by simp [both, vecL_length]; omega
set_option maxRecDepth 100000 in
theorem unm_ok (h p : List UInt8) (b B cap : Nat) (w : World) (hh0 : 0 < h.length) (hh : h.length < 60000) (hp0 : 0 < p.length) (hp : p.length < 256) (hcap : 3 + h.length + p.length ≤ cap) (hb : Blk w b 143 [.slice none 0 0, .slice none 0 0, .int .i64 6]) (hs : Sl w (some ⟨B, 0, none⟩) (cells8 (both h p))) (hne : B ≠ b) :
    Calls Tryd.prog 73 #[.pointer (some ⟨b, 0, none⟩), .slice (some ⟨B, 0, none⟩) (3 + h.length + p.length) cap] w fun e w' => ∃ g c g2 c2, e = .returned .nilIface ∧ Blk w' b 143 [.slice (some ⟨g, 0, none⟩) h.length c, .slice (some ⟨g2, 0, none⟩) p.length c2, .int .i64 6] ∧ Sl w' (some ⟨g, 0, none⟩) (cells8 h) ∧ Sl w' (some ⟨g2, 0, none⟩) (cells8 p) ∧ g ≠ b ∧ g2 ≠ b ∧ w.grownBy w' (some b) := by
  have HB := hide hb
  have HS := hide hs
  have c0 := hb.cell 0
  have c1 := hb.cell 1
  have c2 := hb.cell 2
  have z0 := hb.frozen 0
  have z1 := hb.frozen 1
  have hblt := hb.lt
  simp only [List.getElem?_cons_zero, List.getElem?_cons_succ] at c0 c1 c2
  have hbe : be16 (both h p) = h.length := by unfold both vecL; rw [List.append_assoc]; exact be16_big h.length (by omega) _
  have hH := cells8_length h
  have hP := cells8_length p
  have e1 : ((cells8 (both h p)).drop 2).take h.length = cells8 h := by
    rw [← cells8_drop, ← cells8_take]; congr 1
    have : (both h p).drop 2 = h ++ vecL p 1 := by
      unfold both; rw [vecL, List.append_assoc]; exact List.drop_left' (bigL_length 2 _)
    rw [this]; exact List.take_left
  have e2 : (both h p).drop (2 + h.length) = vecL p 1 := by
    unfold both; exact List.drop_left' (by rw [vecL_length])
  have e3 : (cells8 (both h p)).drop (2 + h.length + 1) = cells8 p := by
    rw [← cells8_drop, ← List.drop_drop, e2]; rfl
  have hbt : (both h p)[2 + h.length]? = some (UInt8.ofNat p.length) := by
    rw [← List.head?_drop, e2]; simp [vecL, bigL]
  have hbp : bat (both h p) (2 + h.length) = p.length := by
    unfold bat; rw [List.getD_eq_getElem?_getD, hbt]; simp [UInt8.toNat_ofNat']; omega
  have E1 := Lib.hid e1
  have E3 := Lib.hid e3
  clear hb hs e1 e2 e3 hbt
  go_enter Tryd.func73, Tryd.ntmps73
  go_wp2_with fail
  refine (has_any 6 2 w).mono ?_
  rintro e w2 ⟨rfl, rfl⟩
  have hbits : (bits .and .i64 6 2 == 2) = true := by rfl
  rw [hbits]
  clear hbits
  go_wp2_with fail
  refine (get16 B 0 _ _ (both h p) _ (by omega) (by rw [both_length]; omega) HS.out).mono ?_
  rintro e w1 ⟨rfl, hb1⟩
  have HB1 := Lib.hid hb1
  rw [hbe]
  have c01 := keep_cell hb1 c0
  have c11 := keep_cell hb1 c1
  have c21 := keep_cell hb1 c2
  have HS1 := Lib.hid (HS.out.below hb1)
  clear hb1 c0 c1 c2
  have hle : (h.length : Int) ≤ 3 + (h.length : Int) + (p.length : Int) - 2 := by omega
  have hz0 := (HB1.out.frozen (p := ⟨b, 0, none⟩) hblt).trans z0
  have hz1 := (HB1.out.frozen (p := ⟨b, 1, none⟩) hblt).trans z1
  have hlt1 : b < w1.heap.size := Nat.lt_of_lt_of_le hblt HB1.out.size
  have hsz : (h.length : Int) + 2 ≤ (cap : Int) := by omega
  have HO : Hid ((w1.alloc (.cells (#[] : Array Value) 5)).ownsRow w1.heap.size 5 1 (.slice (some ⟨w1.heap.size, 0, none⟩) 0 0) 0 []) :=
    hide (ownsRow_empty _ _ _ _ (Nat.le_refl _))
  have HSd : Hid (Sl (w1.alloc (.cells (#[] : Array Value) 5)) (some ⟨B, 2, none⟩) (cells8 h)) := by
    have k := ((HS1.out.drop 2).take h.length).below ((Below.refl _ _).alloc (Nat.le_refl _) (.cells (#[] : Array Value) 5))
    rw [E1.out, Nat.zero_add] at k
    exact hide k
  go_wp2_with (at_builtin; refine wpList_append el8 rfl _ _ rfl rfl HO.out rfl (by simp [cells8_length]) HSd.out (cells8_one h) (by omega) (by unfold maxLen; omega) (by simp) ?_; intro v5 w5 hown5 hg5 hb5 hat5; obtain ⟨g5, c5, rfl, hc5, hm5, hge5, hg5l⟩ := own_form hown5 (by omega); have HB5 := Lib.hid (show Below w1.heap.size w1 w5 from ((Below.refl _ _).alloc (Nat.le_refl _) _).trans hb5); have HO5 := Lib.hid hown5; have c05 := keep_cell HB5.out c01; have c15 := keep_cell HB5.out c11; have c25 := keep_cell HB5.out c21; have hz05 := (HB5.out.frozen (p := ⟨b, 0, none⟩) hlt1).trans hz0; have hz15 := (HB5.out.frozen (p := ⟨b, 1, none⟩) hlt1).trans hz1; clear hown5 hg5 hb5 hat5 c01 c11 c21 hz0 hz1)
  have e2 : 0 + (h.length + 2 - 2) = h.length := by omega
  simp only [e2, List.nil_append] at HO5
  have HB5w := Lib.hid (HB1.out.trans (HB5.out.mono HB1.out.size))
  have hgb : g5 ≠ b := by omega
  have K6 := Lib.hid ((HB.out.below HB5w.out hblt).set_ 0 (.slice (some ⟨g5, 0, none⟩) h.length c5))
  have HS6 := Lib.hid ((HS1.out.below HB5.out).setCell_far (p := ⟨b, 0, none⟩) (fun b' o e => by injection e with e; injection e with e1; subst e1; exact hne) (.slice (some ⟨g5, 0, none⟩) h.length c5))
  have HH6 := Lib.hid ((Sl.of_own HO5.out).setCell_far (p := ⟨b, 0, none⟩) (fun b' o e => by injection e with e; injection e with e1; subst e1; exact hgb) (.slice (some ⟨g5, 0, none⟩) h.length c5))
  have HG6 := Lib.hid (only_setCell (p := ⟨b, 0, none⟩) (only_of_below HB5w.out (some b)) (.inl rfl) (.slice (some ⟨g5, 0, none⟩) h.length c5))
  have hg5w : g5 < (w5.setCell ⟨b, 0, none⟩ (.slice (some ⟨g5, 0, none⟩) h.length c5)).heap.size := by simpa [World.setCell] using hg5l
  generalize w5.setCell ⟨b, 0, none⟩ (.slice (some ⟨g5, 0, none⟩) h.length c5) = w6 at *
  clear c05 c15 c25 hz05 hz15 HO5 HB5 HB1 HS1 HO HSd HB5w
  have hblt6 := K6.out.lt
  have k1 := K6.out.cell 1
  have k2 := K6.out.cell 2
  have f1 := K6.out.frozen 1
  simp only [List.set_cons_zero, List.getElem?_cons_zero, List.getElem?_cons_succ] at k1 k2
  have d6 : w6.cell? ⟨B, h.length + 2, none⟩ = some (.int .u8 (p.length : Int)) := by
    obtain ⟨b', o', e, hc⟩ := HS6.out (2 + h.length) _ (cells8_get (both h p) (2 + h.length) (by rw [both_length]; omega))
    injection e with e; injection e with e1 e2; subst e1 e2
    rw [hbp, Nat.zero_add, Nat.add_comm] at hc
    exact hc
  refine (has_any 6 4 w6).mono ?_
  rintro e w7 ⟨rfl, rfl⟩
  have hbits : (bits .and .i64 6 4 == 4) = true := by rfl
  rw [hbits]
  clear hbits
  have HO : Hid ((w6.alloc (.cells (#[] : Array Value) 5)).ownsRow w6.heap.size 5 1 (.slice (some ⟨w6.heap.size, 0, none⟩) 0 0) 0 []) :=
    hide (ownsRow_empty _ _ _ _ (Nat.le_refl _))
  have HSd : Hid (Sl (w6.alloc (.cells (#[] : Array Value) 5)) (some ⟨B, h.length + 2 + 1, none⟩) (cells8 p)) := by
    have k := (HS6.out.drop (2 + h.length + 1)).below ((Below.refl _ _).alloc (Nat.le_refl _) (.cells (#[] : Array Value) 5))
    rw [E3.out, Nat.zero_add, show 2 + h.length + 1 = h.length + 2 + 1 by omega] at k
    exact hide k
  go_wp2_with (at_builtin; refine wpList_append el8 rfl _ _ rfl rfl HO.out rfl (by simp only [cells8_length]; omega) HSd.out (cells8_one p) (by omega) (by unfold maxLen; omega) (by simp) ?_; intro v8 w8 hown8 hg8 hb8 hat8; obtain ⟨g8, c8, rfl, hc8, hm8, hge8, hg8l⟩ := own_form hown8 (by omega); have HB8 := Lib.hid (show Below w6.heap.size w6 w8 from ((Below.refl _ _).alloc (Nat.le_refl _) _).trans hb8); have HO8 := Lib.hid hown8; have c18 := keep_cell HB8.out k1; have hz18 := (HB8.out.frozen (p := ⟨b, 1, none⟩) hblt6).trans f1; clear hown8 hg8 hb8 hat8 k1 f1)
  all_goals
    go_ret
    have e3 : 0 + (h.length + 2 + 1 + p.length - (h.length + 2 + 1)) = p.length := by omega
    simp only [e3, List.nil_append] at HO8 ⊢
    have hgb8 : g8 ≠ b := by omega
    have HB8w := HB8.out
    have K8 := (K6.out.below HB8w hblt6).set_ 1 (.slice (some ⟨g8, 0, none⟩) p.length c8)
    have HH8 := (HH6.out.below HB8w).setCell_far (p := ⟨b, 1, none⟩) (fun b' o e => by injection e with e; injection e with e1; subst e1; exact hgb) (.slice (some ⟨g8, 0, none⟩) p.length c8)
    have HP8 := (Sl.of_own HO8.out).setCell_far (p := ⟨b, 1, none⟩) (fun b' o e => by injection e with e; injection e with e1; subst e1; exact hgb8) (.slice (some ⟨g8, 0, none⟩) p.length c8)
    have HG8 := only_setCell (p := ⟨b, 1, none⟩) (only_below HG6.out HB8w HG6.out.size) (.inl rfl) (.slice (some ⟨g8, 0, none⟩) p.length c8)
    exact ⟨g5, c5, g8, c8, rfl, K8, HH8, HP8, hgb, hgb8, HG8⟩
abbrev zeroMsg : List Value := msgRow 0 false 0 0 0 ⟨#[]⟩ ⟨#[]⟩ ⟨#[]⟩ (.slice none 0 0) (.slice none 0 0) (.slice none 0 0) (.slice none 0 0) (.slice none 0 0) (.slice none 0 0) 0 0 ⟨#[]⟩ ⟨#[]⟩ ⟨#[]⟩ 0 0 0 ⟨#[]⟩ ⟨#[]⟩ (.slice none 0 0)
abbrev ckMsg (h p : List UInt8) : Array Value := (msgRow 16 false 0 0 0 ⟨#[]⟩ ⟨#[]⟩ ⟨#[]⟩ (.slice none 0 0) (.slice none 0 0) (.slice none 0 0) (.slice none 0 0) (.slice none 0 0) (.slice none 0 0) 0 0 ⟨#[]⟩ (S h) (S p) 6 0 0 ⟨#[]⟩ ⟨#[]⟩ (.slice none 0 0)).toArray
theorem msg_one (h p : List UInt8) : (ckMsg h p).all (·.oneCell') = true := by simp [ckMsg, Value.oneCell']
theorem below_set {B : Nat} {w w' : World} (h : Below B w w') {p : Addr} (hp : B ≤ p.block) (u : Value) : Below B w (w'.setCell p u) :=
  ⟨h.os, h.tape, h.output, by simpa [World.setCell] using h.size, fun k hk => (Below.heap_setCell w' p u k (by omega)).trans (h.block k hk)⟩
set_option maxHeartbeats 4000000 in
set_option maxRecDepth 100000 in
theorem data_any (h p : List UInt8) (b g c g2 c2 : Nat) (w : World) (hl0 : 0 < h.length) (hl2 : 0 < p.length) (hb : Blk w b 143 [.slice (some ⟨g, 0, none⟩) h.length c, .slice (some ⟨g2, 0, none⟩) p.length c2, .int .i64 6]) (hs : Sl w (some ⟨g, 0, none⟩) (cells8 h)) (hs2 : Sl w (some ⟨g2, 0, none⟩) (cells8 p)) :
    Calls Tryd.prog 74 #[.pointer (some ⟨b, 0, none⟩)] w fun e w' => e = .returned (.agg (ckMsg h p)) ∧ Below w.heap.size w w' := by
  have hblt := hb.lt
  have hst : ∀ W : World, Sl W (some ⟨g, 0, none⟩) (cells8 h) → (convert 48 9 (.slice (some ⟨g, 0, none⟩) h.length c)).run Tryd.prog W = .ok (.string (S h)) W := fun W k => run_string_of (P := Tryd.prog) W Tryd.underlying48 Tryd.underlying5 Tryd.underlying9 rfl k
  have hsp : ∀ W : World, Sl W (some ⟨g2, 0, none⟩) (cells8 p) → (convert 48 9 (.slice (some ⟨g2, 0, none⟩) p.length c2)).run Tryd.prog W = .ok (.string (S p)) W := fun W k => run_string_of (P := Tryd.prog) W Tryd.underlying48 Tryd.underlying5 Tryd.underlying9 rfl k
  have HB := Lib.hid hb
  have HS := Lib.hid hs
  have HP := Lib.hid hs2
  have hgl2 : g2 < w.heap.size := by
    obtain ⟨b', o', e, hc⟩ := hs2 0 _ (cells8_get p 0 hl2)
    injection e with e; injection e with e1 e2; subst e1
    exact World.block_lt_of_cell? w _ hc
  have hbn1 : b ≠ w.heap.size + 1 := by omega
  clear hb hs hs2
  go_enter Tryd.func74, Tryd.ntmps74
  go_wp2_with (first | (refine Go.Great.wpList_buildTo rfl 52 _ rfl (some 4) rfl (msgRow 16 false 0 0 0 ⟨#[]⟩ ⟨#[]⟩ ⟨#[]⟩ (.slice none 0 0) (.slice none 0 0) (.slice none 0 0) (.slice none 0 0) (.slice none 0 0) (.slice none 0 0) 0 0 ⟨#[]⟩ ⟨#[]⟩ ⟨#[]⟩ 0 0 0 ⟨#[]⟩ ⟨#[]⟩ (.slice none 0 0)).toArray (by kernel_rfl) ?_) | (refine wpList_store_blk (Blk.new_at (w.heap.size + 1) (by simp) 52 zeroMsg) rfl (.tmp 3) (.tmp 4) rfl (msgRow 16 false 0 0 0 ⟨#[]⟩ ⟨#[]⟩ ⟨#[]⟩ (.slice none 0 0) (.slice none 0 0) (.slice none 0 0) (.slice none 0 0) (.slice none 0 0) (.slice none 0 0) 0 0 ⟨#[]⟩ ⟨#[]⟩ ⟨#[]⟩ 0 0 0 ⟨#[]⟩ ⟨#[]⟩ (.slice none 0 0)).toArray rfl rfl rfl (by kernel_rfl) (by simp [Value.oneCell']) ?_; intro W0 hO hG; have HO := Lib.hid hO; have HR := Lib.hid (((Blk.new w 52 zeroMsg).alloc _).grown hG (by simp)); have HW := Lib.hid (below_only (((Below.refl w.heap.size w).alloc (Nat.le_refl _) _).alloc (by simp) _) hG (by simp; omega) (by omega)); clear hO hG))
  have HA := Lib.hid (HB.out.below HW.out hblt)
  have HT := Lib.hid (HS.out.below HW.out)
  have HQ := Lib.hid (HP.out.below HW.out)
  have k17 : W0.cell? ⟨w.heap.size + 1, 17, none⟩ = some (.string ⟨#[]⟩) := HO.out.cell 17
  have k18 : W0.cell? ⟨w.heap.size + 1, 18, none⟩ = some (.string ⟨#[]⟩) := HO.out.cell 18
  have k19 : W0.cell? ⟨w.heap.size + 1, 19, none⟩ = some (.int .i64 0) := HO.out.cell 19
  have f17 := HO.out.frozen 17
  have f18 := HO.out.frozen 18
  have f19 := HO.out.frozen 19
  have b0 : W0.cell? ⟨b, 0, none⟩ = some (.slice (some ⟨g, 0, none⟩) h.length c) := HA.out.cell 0
  have b1 : W0.cell? ⟨b, 1, none⟩ = some (.slice (some ⟨g2, 0, none⟩) p.length c2) := HA.out.cell 1
  have b2 : W0.cell? ⟨b, 2, none⟩ = some (.int .i64 6) := HA.out.cell 2
  have hst0 := hst W0 HT.out
  have hst1 := hst W0.drew HT.out
  have hsp0 := hsp W0 HQ.out
  have hsp1 := hsp W0.drew HQ.out
  have hgn : ∀ b' o, (some ⟨g2, 0, none⟩ : Option Addr) = some ⟨b', o, none⟩ → b' ≠ w.heap.size + 1 := fun b' o e => by injection e with e; injection e with e1; omega
  have hsp2 := hsp ((W0.setCell ⟨w.heap.size + 1, 17, none⟩ (.string (S h))).drew) (HQ.out.setCell_far (p := ⟨w.heap.size + 1, 17, none⟩) hgn _)
  have hsp3 := hsp (W0.setCell ⟨w.heap.size + 1, 17, none⟩ (.string (S h))) (HQ.out.setCell_far (p := ⟨w.heap.size + 1, 17, none⟩) hgn _)
  have hb0 := HA.out.lt
  have ho0 := HO.out.lt
  clear hst hsp hgn
  go_region
  have hrn : w.heap.size ≠ w.heap.size + 1 := by omega
  have HO1 := Lib.hid (((HO.out.set_ 17 (.string (S h))).set_ 18 (.string (S p))).set_ 19 (.int .i64 6)).drew
  have HR1 := Lib.hid (((HR.out.far (p := ⟨w.heap.size + 1, 17, none⟩) hrn (.string (S h))).far (p := ⟨w.heap.size + 1, 18, none⟩) hrn (.string (S p))).far (p := ⟨w.heap.size + 1, 19, none⟩) hrn (.int .i64 6)).drew
  have HW1 := Lib.hid (below_set (p := ⟨w.heap.size + 1, 19, none⟩) (below_set (p := ⟨w.heap.size + 1, 18, none⟩) (below_set (p := ⟨w.heap.size + 1, 17, none⟩) HW.out (Nat.le_succ _) (.string (S h))) (Nat.le_succ _) (.string (S p))) (Nat.le_succ _) (.int .i64 6)).drew
  simp only [List.set_cons_zero, List.set_cons_succ] at HO1
  clear k17 k18 k19 f17 f18 f19 b0 b1 b2 hst0 hst1 hsp0 hsp1 hsp2 hsp3 hb0 ho0 HO HW HA HT HB HS HP HQ HR
  generalize (((W0.setCell ⟨w.heap.size + 1, 17, none⟩ (.string (S h))).setCell ⟨w.heap.size + 1, 18, none⟩ (.string (S p))).setCell ⟨w.heap.size + 1, 19, none⟩ (.int .i64 6)).drew = W1 at HO1 HW1 HR1 ⊢
  go_wp2_with (refine wpList_load_mid rfl _ (.tmp 3) rfl _ _ rfl (msgRow 16 false 0 0 0 ⟨#[]⟩ ⟨#[]⟩ ⟨#[]⟩ (.slice none 0 0) (.slice none 0 0) (.slice none 0 0) (.slice none 0 0) (.slice none 0 0) (.slice none 0 0) 0 0 ⟨#[]⟩ (S h) (S p) 6 0 0 ⟨#[]⟩ ⟨#[]⟩ (.slice none 0 0)) _ HO1.out.rangeAt Tryd.underlying52 rfl (by kernel_rfl) ?_; refine wpList_store_blk HR1.out rfl (.tmp 2) (.tmp 22) rfl (ckMsg h p) rfl rfl rfl (by kernel_rfl) (msg_one h p) ?_; intro w4 hr4 hg4; have HR4 := Lib.hid hr4; have HG4 := Lib.hid hg4; clear hr4 hg4)
  refine bodyPost_ret (ret_cell HR4.out rfl rfl Tryd.underlying52 rfl (by kernel_rfl)) rfl ?_
  exact ⟨rfl, below_only HW1.out HG4.out HW1.out.size (Nat.le_refl _)⟩
set_option maxRecDepth 100000 in
theorem read_ok (h p : List UInt8) (w : World) (hh0 : 0 < h.length) (hh : h.length < 60000) (hp0 : 0 < p.length) (hp : p.length < 256) :
    Calls Tryd.prog 37 #[.int .i64 6, .string (S (both h p))] w fun e w' => e = .returned (.tuple #[.agg (ckMsg h p), .bool true]) ∧ Below w.heap.size w w' := by
  have hvl := both_length h p
  go_enter Tryd.func37, Tryd.ntmps37
  go_wp2_with (refine wpList_bytes (o := ⟨some 13, _, _, _, _, _⟩) rfl _ rfl Tryd.underlying9 Tryd.underlying48 Tryd.underlying5 rfl (w.heap.size + 2) (by simp) ?_; intro cap w1 hcap hs1 hb1 hlt1 hx1; have HCAP := hide hcap; have HS1 := hide hs1; have HB1 := hide hb1; have HLT1 := hide hlt1; clear hcap hs1 hb1 hlt1 hx1)
  refine (unm_ok h p (w.heap.size + 1) (w.heap.size + 2) cap w1 hh0 hh hp0 hp (by have := HCAP.out; omega) ((Blk.new_at (w.heap.size + 1) (by simp) 143 [.slice none 0 0, .slice none 0 0, .int .i64 6]).below HB1.out (by omega)) HS1.out (by omega)).mono ?_
  rintro e w2 ⟨g, c, g2, c2, rfl, hbk2, hs2, hs3, hgne, hgne2, hg2⟩
  have hr2 : Blk w2 w.heap.size 52 zeroMsg :=
    (((Blk.new w 52 zeroMsg).alloc _).below HB1.out (by omega)).grown hg2 (by simp)
  have HB := Lib.hid (show Below w.heap.size w w2 from (((Below.refl _ _).alloc (Nat.le_refl _) _).alloc (by simp) _).trans ((HB1.out.mono (by omega)).grown hg2 (by have := HLT1.out; omega) (fun k e => by injection e with e; omega)))
  have HR2 := hide hr2
  have HK2 := hide hbk2
  have HS2 := hide hs2
  have HS3 := hide hs3
  clear hr2 hbk2 hg2 hs2 hs3
  go_wp2_with fail
  refine (data_any h p (w.heap.size + 1) g c g2 c2 w2 hh0 hp0 HK2.out HS2.out HS3.out).mono ?_
  rintro e w3 ⟨rfl, hb3⟩
  have hr3 := HR2.out.below hb3 HR2.out.lt
  have HB3 := Lib.hid (HB.out.trans (hb3.mono HB.out.size))
  have HR3 := hide hr3
  clear hr3 hb3
  go_wp2_with (refine wpList_store_blk HR3.out rfl (.tmp 4) (.tmp 19) rfl (ckMsg h p) rfl rfl rfl (by kernel_rfl) (msg_one _ _) ?_; intro w4 hr4 hg4; have HR4 := hide hr4; have HG4 := hide hg4; clear hr4 hg4)
  refine bodyPost_ret (ret_cell_tmp HR4.out rfl rfl Tryd.underlying52 rfl (by kernel_rfl)) rfl ?_
  exact ⟨rfl, below_only HB3.out HG4.out HB3.out.size (Nat.le_refl _)⟩

end Go.Proofs.YthfpfakdchhodaaDoor.fnClientKeyBothBack
