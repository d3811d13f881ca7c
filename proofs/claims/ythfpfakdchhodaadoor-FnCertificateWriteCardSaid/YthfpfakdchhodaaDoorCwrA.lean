/- Certificates: three bytes of a number laid into a row, and the row that MessageCertificate.Marshal writes. -/
import Derived.Test.YthfpfakdchhodaaDoorDoor
import Derived.Test.YthfpfakdchhodaaDoorRaw
namespace Go.Proofs.YthfpfakdchhodaaDoor.fnCertificateWrite
open Go.ChangeShapes Go.WideShapes Go.ChangeAt Go.RowKit Go.Proofs.YthfpfakdchhodaaDoor
set_option linter.unusedVariables false

theorem weight_len3 (L : List (List UInt8)) : 3 * L.length ≤ weight 3 L := by
  induction L with
  | nil => simp [weight]
  | cons x L ih => simp only [weight, List.map_cons, List.sum_cons, List.length_cons] at ih ⊢; omega
set_option maxRecDepth 100000 in
theorem put32 (b c : Nat) (x0 x1 x2 x3 : Value) (v : Nat) (w : World) (hv : v < 16777216) (hb : Blk w b 5 [x0, x1, x2, x3]) :
    Calls Tryd.prog 111 #[.agg #[], .slice (some ⟨b, 0, none⟩) 4 c, .int .u32 v] w fun e w' => e = .returned (.tuple #[]) ∧ Blk w' b 5 (cells8 (bigL 4 v)) ∧ w.grownBy w' (some b) := by
  have c0 := hb.cell 0
  have c1 := hb.cell 1
  have c2 := hb.cell 2
  have c3 := hb.cell 3
  have f0 := hb.frozen 0
  have f1 := hb.frozen 1
  have f2 := hb.frozen 2
  have f3 := hb.frozen 3
  simp only [List.getElem?_cons_zero, List.getElem?_cons_succ] at c0 c1 c2 c3
  have hlt := hb.lt
  go_enter Tryd.func111, Tryd.ntmps111
  go_wp2
  go_end0
  refine ⟨rfl, ?_, ?_⟩
  · have h := ((((hb.set_ 0 (.int .u8 ((v : Int) / 16777216))).set_ 1 (.int .u8 ((v : Int) / 65536))).set_ 2 (.int .u8 ((v : Int) / 256 % 256))).set_ 3 (.int .u8 ((v : Int) % 256))).alloc (.cells #[] 166)
    have e : ((([x0, x1, x2, x3].set 0 (.int .u8 ((v : Int) / 16777216))).set 1 (.int .u8 ((v : Int) / 65536))).set 2 (.int .u8 ((v : Int) / 256 % 256))).set 3 (.int .u8 ((v : Int) % 256)) = cells8 (bigL 4 v) := by
      simp [cells8, bigL, UInt8.toNat_ofNat']
      omega
    rw [e] at h
    exact h
  · exact only_alloc (only_setCell (p := ⟨b, 3, none⟩) (only_setCell (p := ⟨b, 2, none⟩) (only_setCell (p := ⟨b, 1, none⟩) (only_setCell (p := ⟨b, 0, none⟩) (only_refl w _) (.inl rfl) _) (.inl rfl) _) (.inl rfl) _) (.inl rfl) _) _
theorem _root_.Go.Proofs.YthfpfakdchhodaaDoor.Sl.at_ {w : World} {B off : Nat} {xs : List Value} (h : Sl w (some ⟨B, off, none⟩) xs) : ∀ j v, xs[j]? = some v → w.cell? ((⟨B, off, none⟩ : Addr).add j) = some v := fun j v hj => by
  obtain ⟨b, o, e, hc⟩ := h j v hj
  cases e
  have hadd : (⟨B, off, none⟩ : Addr).add j = ⟨B, off + j, none⟩ := by unfold Addr.add; split <;> simp_all
  rw [hadd]; exact hc
theorem add_addr (b o j : Nat) : (⟨b, o, none⟩ : Addr).add j = ⟨b, o + j, none⟩ := by unfold Addr.add; split <;> simp_all
set_option maxRecDepth 100000 in
/-- three bytes of v laid at off -/
theorem put24 (B g off n c v : Nat) (xs : List Value) (w : World) (hv : v < 16777216) (hn : 3 ≤ n) (hb : Blk w g 5 xs) (hB : B ≤ g) (hoff : off + 3 ≤ xs.length) :
    Calls Tryd.prog 93 #[.slice (some ⟨g, off, none⟩) n c, .int .u32 v] w fun e w' => e = .returned (.tuple #[]) ∧ Blk w' g 5 (splice xs off (cells8 (bigL 3 v))) ∧ Below B w w' := by
  have HB := Lib.hid hb
  have hlt := hb.lt
  clear hb
  go_enter Tryd.func93, Tryd.ntmps93
  have hmk := fun W : World => make_bytes_at 4 4 (by omega) (by omega) W .i64 .i64
  go_wp2_with fail
  refine (put32 w.heap.size 4 (.int .u8 0) (.int .u8 0) (.int .u8 0) (.int .u8 0) v _ hv (Blk.new w _ _)).mono ?_
  rintro e w1 ⟨rfl, hk1, hg1⟩
  have HK1 := Lib.hid hk1
  have HG1 := Lib.hid (show w.grownBy w1 (some g) from only_trans' (only_alloc (only_refl w _) _) hg1 (fun g e => by injection e with e; omega))
  have HO1 := Lib.hid ((HB.out.alloc (.cells (zeros 4).toArray 5)).grown hg1 (by intro e; injection e with e; omega))
  have HSRC := Lib.hid (show ∀ j v', (cells8 (bigL 3 v))[j]? = some v' → w1.cell? ((⟨w.heap.size, 1, none⟩ : Addr).add j) = some v' from fun j v' hj => by
    rw [add_addr, hk1.cell]
    rw [Nat.add_comm]
    exact hj)
  clear hk1 hg1
  have HB1 := Lib.hid (show Below B w w1 from below_only (Below.refl B w) HG1.out (by omega) hB)
  have h3 : (cells8 (bigL 3 v)).length = 3 := by rw [cells8_length, bigL_length]
  go_wp2_with (refine wpList_copy_splice rfl (.tmp 10) (.tmp 12) 48 48 rfl 5 Tryd.underlying48 (by kernel_rfl) _ _ _ _ _ _ rfl rfl g off xs 5 HO1.out (cells8 (bigL 3 v)) (by rw [h3]; show 3 = min 3 n; omega) (fun _ => ⟨rfl, _, rfl, HSRC.out⟩) (by rw [h3]; exact hoff) (cells8_one _) B w HB1.out hB ?_; intro w4 hg4 hb4)
  go_end0
  exact ⟨rfl, hg4.out, hb4⟩
set_option maxHeartbeats 2000000 in
set_option maxRecDepth 100000 in
theorem marshal_any (p : Nat) (A : Option Addr) (c : Nat) (vs : List Value) (L : List (List UInt8)) (w : World) (hw : weight 3 L ≤ 60000) (hL : ∀ x ∈ L, 1 ≤ x.length) (hp : Blk w p 179 [.slice A L.length c]) (hs : Sl w A vs) (hb : Blobs w L vs) :
    Calls Tryd.prog 51 #[.pointer (some ⟨p, 0, none⟩)] w fun e w' => ∃ g c', e = .returned (.tuple #[.slice (some ⟨g, 0, none⟩) (vecL (textsL 3 L) 3).length c', .nilIface]) ∧ Sl w' (some ⟨g, 0, none⟩) (cells8 (vecL (textsL 3 L) 3)) ∧ Below w.heap.size w w' := by
  have HS := Lib.hid hs
  have HBL := Lib.hid hb
  have HLs := Lib.hid hL
  have c0 := hp.cell 0
  simp only [List.getElem?_cons_zero] at c0
  have hplt := hp.lt
  have hn3 := weight_len3 L
  clear hs hb hL hp
  go_enter Tryd.func51, Tryd.ntmps51
  have hTL := textsL_length 3 L
  go_wp2
  go_loopw [4, 6, 16] (fun t _ i wr => ∃ k : Nat, k ≤ L.length ∧ i = .int .i64 k ∧ t = .int .i64 (3 + (weight 3 (L.take k) : Int)) ∧ w = wr) (fun _ _ i _ => L.length - (intOf i).toNat)
  case atStart => exact ⟨0, by omega, rfl, rfl, rfl⟩
  case round =>
    obtain ⟨k, hk, rfl, rfl, rfl⟩ := hrel
    by_cases hlt : k < L.length
    · obtain ⟨x, hx⟩ : ∃ x, L[k]? = some x := ⟨_, List.getElem?_eq_getElem hlt⟩
      obtain ⟨b', off', cap', hv, hsx, hty⟩ := HBL.out.2 k x hx
      obtain ⟨bb, off, rfl, hc⟩ := HS.out k _ hv
      have hx1 := HLs.out x (List.mem_of_getElem? hx)
      have HX := Lib.hid (weight_succ 3 L k x hx)
      have hwk := weight_take 3 L k
      have hwx := weight_mem 3 L x (List.mem_of_getElem? hx)
      generalize weight 3 (L.take k) = W0 at *
      have hx0 : ¬ (x.length : Int) = 0 := by omega
      have hw1 : IntKind.i64.wrap (3 + (x.length : Int)) = 3 + (x.length : Int) := by rw [IntKind.wrap_i64]; omega
      have hw2 : IntKind.i64.wrap (3 + (W0 : Int) + (3 + (x.length : Int))) = 3 + (W0 : Int) + (3 + (x.length : Int)) := by rw [IntKind.wrap_i64]; omega
      clear hx hsx hty hv
      go_wp2
      go_roundw
      case rel => exact ⟨k + 1, by omega, by go_num, by rw [HX.out]; go_num, trivial⟩
      case measure => simp [intOf]; omega
    · obtain rfl : k = L.length := by omega
      rw [List.take_length]
      generalize hWW : weight 3 L = W at *
      obtain ⟨M, hM⟩ : ∃ M : Nat, M = 3 + W := ⟨_, rfl⟩
      have hmk := fun w' : World => make_bytes_at M (3 + (W : Int)) (by omega) (by omega) w' .i64 .i64
      have HM := Lib.hid hM
      clear hM
      have hw3 : IntKind.i64.wrap (3 + (W : Int) - 3) = (W : Int) := by rw [IntKind.wrap_i64]; omega
      have hw4 : IntKind.u32.wrap (W : Int) = (W : Int) := by rw [IntKind.wrap_u32]; omega
      have HK0 := Lib.hid (Blk.new w 5 (zeros M))
      go_wp2_with fail
      refine (put24 w.heap.size w.heap.size 0 M M W _ _ (by omega) (by have := HM.out; omega) HK0.out (Nat.le_refl _) (by rw [zeros_length]; have := HM.out; omega)).mono ?_
      rintro e w1 ⟨rfl, hk1, hb1⟩
      have HK1 := Lib.hid (show Blk w1 w.heap.size 5 (part (bigL 3 W) W) by
        rw [part_zero, part_copy [] (bigL 3 W) W M 0 rfl (by rw [bigL_length]; exact HM.out)] at hk1
        exact hk1)
      have HB1 := Lib.hid (show Below w.heap.size w w1 from ((Below.refl _ _).alloc (Nat.le_refl _) _).trans hb1)
      have c1 : w1.cell? ⟨p, 0, none⟩ = some (.slice A L.length c) := keep_cell HB1.out c0
      clear hk1 hb1 hmk HK0 hw3 hw4
      go_wp2
      go_loopw [8, 10, 42] (fun o _ i wr => ∃ k : Nat, k ≤ L.length ∧ i = .int .i64 k ∧ o = .int .i64 (3 + (weight 3 (L.take k) : Int)) ∧ Blk wr w.heap.size 5 (part (bigL 3 W ++ textsL 3 (L.take k)) (W - weight 3 (L.take k))) ∧ Below w.heap.size w wr) (fun _ _ i _ => L.length - (intOf i).toNat)
      case atStart => exact ⟨0, by omega, rfl, rfl, by simpa [weight, textsL] using HK1.out, HB1.out⟩
      case round =>
        obtain ⟨k, hk, rfl, rfl, hblk, hbel⟩ := hrel
        have HK := Lib.hid hblk
        have HB := Lib.hid hbel
        clear hblk hbel
        by_cases hlt : k < L.length
        · obtain ⟨x, hx⟩ : ∃ x, L[k]? = some x := ⟨_, List.getElem?_eq_getElem hlt⟩
          obtain ⟨b', off', cap', hv, hsx, cs, fr, hty⟩ := (HBL.out.below HB.out).2 k x hx
          have hbl' : b' < w.heap.size := by
            obtain ⟨b2, o2, c2, h1, _, cs2, fr2, h2⟩ := HBL.out.2 k x hx
            rw [h1] at hv
            injection hv with hv
            injection hv with hv
            injection hv with hv
            injection hv with hv
            subst hv
            exact (Array.getElem?_eq_some_iff.1 h2).1
          obtain ⟨bb, off, rfl, hc⟩ := (HS.out.below HB.out) k _ hv
          have hx1 := HLs.out x (List.mem_of_getElem? hx)
          have HX := Lib.hid (weight_succ 3 L k x hx)
          have HT := Lib.hid (show textsL 3 (L.take (k + 1)) = textsL 3 (L.take k) ++ vecL x 3 from (take_flat_succ _ L k x hx).symm)
          have hwk1 := weight_take 3 L (k + 1)
          rw [HX.out, hWW] at hwk1
          have HLk := Lib.hid (show (bigL 3 W ++ textsL 3 (L.take k)).length = 3 + weight 3 (L.take k) by rw [List.length_append, bigL_length, textsL_length])
          have HSX := Lib.hid hsx
          clear hx hsx hty hv
          generalize hW0 : weight 3 (L.take k) = W0 at *
          generalize hTk : bigL 3 W ++ textsL 3 (L.take k) = T at *
          obtain ⟨N, hN⟩ : ∃ N : Nat, N = 3 + W0 := ⟨_, rfl⟩
          have hM := HM.out
          have hNi : 3 + (W0 : Int) = (N : Int) := by omega
          rw [hNi]
          have hlo : (0 : Int) ≤ (N : Int) := by omega
          have hhi : (N : Int) ≤ (M : Int) := by omega
          have hne : ¬ M = N := by omega
          have hlo2 : (0 : Int) ≤ ((N + 3 : Nat) : Int) := by omega
          have hhi2 : ((N + 3 : Nat) : Int) ≤ (M : Int) := by omega
          have hne2 : ¬ M = N + 3 := by omega
          have hw1 : IntKind.i64.wrap ((N : Int) + 3) = ((N + 3 : Nat) : Int) := by rw [IntKind.wrap_i64]; omega
          have hw2 : IntKind.i64.wrap (((N + 3 : Nat) : Int) + (x.length : Int)) = ((N + 3 + x.length : Nat) : Int) := by rw [IntKind.wrap_i64]; omega
          have hw2' : IntKind.i64.wrap ((N : Int) + 3 + (x.length : Int)) = ((N + 3 + x.length : Nat) : Int) := by rw [IntKind.wrap_i64]; omega
          have hw3 : IntKind.u32.wrap (x.length : Int) = (x.length : Int) := by rw [IntKind.wrap_u32]; omega
          have HN := Lib.hid hN
          have HTk := Lib.hid hTk
          clear hN hM hNi hW0 hTk
          go_wp2_with fail
          refine (put24 w.heap.size w.heap.size N (M - N) (M - N) x.length _ _ (by omega) (by have := HN.out; have := HM.out; omega) HK.out (Nat.le_refl _) (by rw [part_length, HLk.out]; have := HN.out; omega)).mono ?_
          rintro e w2 ⟨rfl, hk2, hb2⟩
          have HK2 := Lib.hid (show Blk w2 w.heap.size 5 (part (T ++ bigL 3 x.length) (W - W0 - 3)) by
            rw [part_copy T (bigL 3 x.length) (W - W0 - 3) (W - W0) N (by rw [HLk.out]; exact HN.out) (by rw [bigL_length]; omega)] at hk2
            exact hk2)
          have HB2 := Lib.hid (HB.out.trans hb2)
          have HSRC := Lib.hid ((show Sl w2 (some ⟨b', off', none⟩) (cells8 x) from HSX.out.keep hb2 (fun b o e => by cases e; exact hbl')).at_)
          have HLk2 := Lib.hid (show (T ++ bigL 3 x.length).length = N + 3 by rw [List.length_append, bigL_length, HLk.out]; have := HN.out; omega)
          have hMN := HM.out
          have hNN := HN.out
          have HMN := Lib.hid (show W - W0 - 3 = x.length + (W - W0 - 3 - x.length) ∧ M - (N + 3) = W - W0 - 3 ∧ N + 3 + x.length ≤ M by omega)
          clear hk2 hb2 hMN hNN
          go_wp2_with (refine wpList_copy_splice rfl (.tmp 57) (.tmp 58) 48 48 rfl 5 Tryd.underlying48 (by kernel_rfl) _ _ _ _ _ _ rfl rfl w.heap.size (N + 3) _ 5 HK2.out (cells8 x) (by rw [cells8_length]; show x.length = min _ _; have := HMN.out; omega) (fun _ => ⟨rfl, _, rfl, HSRC.out⟩) (by rw [cells8_length, part_length, HLk2.out]; have := HMN.out; omega) (cells8_one _) w.heap.size w HB2.out (Nat.le_refl _) ?_; intro w4 hg4 hb4)
          go_roundw
          case rel =>
            refine ⟨k + 1, by omega, by go_num, ?_, ?_, hb4⟩
            · have := HN.out
              rw [HX.out]; go_num
            · have h := hg4.out
              rw [part_copy (T ++ bigL 3 x.length) x (W - W0 - 3 - x.length) (W - W0 - 3) (N + 3) HLk2.out.symm HMN.out.1] at h
              have e1 : bigL 3 W ++ textsL 3 (L.take (k + 1)) = T ++ bigL 3 x.length ++ x := by
                rw [HT.out, ← HTk.out, vecL]; simp only [List.append_assoc]
              rw [e1, HX.out, show W - (W0 + (x.length + 3)) = W - W0 - 3 - x.length by omega]
              exact h
          case measure => simp [intOf]; omega
        · obtain rfl : k = L.length := by omega
          rw [List.take_length, hWW, Nat.sub_self, part_full] at HK
          go_wp2
          go_ret2
          have hv : bigL 3 W ++ textsL 3 L = vecL (textsL 3 L) 3 := by rw [vecL, hTL]
          have hl : (vecL (textsL 3 L) 3).length = M := by rw [vecL_length, hTL]; exact HM.out.symm
          rw [hl, ← hv]
          exact ⟨w.heap.size, M, rfl, HK.out.sl (fun j v hj => by rw [Nat.zero_add]; exact hj), HB.out⟩
end Go.Proofs.YthfpfakdchhodaaDoor.fnCertificateWrite