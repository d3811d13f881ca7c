/- FnSuitesCut: for every list of suites and every number of lacking bytes the law returns true. The listed sentinel is tied to the program's text. -/
import Derived.Test.YthfpfakdchhodaaDoorDoor
import Derived.Test.YthfpfakdchhodaaDoorPut
namespace Go.Proofs.YthfpfakdchhodaaDoor.fnSuitesCut
open Go.ChangeShapes Go.WideShapes Go.ChangeAt Go.RowKit Go.Proofs.YthfpfakdchhodaaDoor
set_option linter.unusedVariables false

/-- The suites' bytes. -/
def wire (l : List Int) : List UInt8 := bigL 2 (l.length * 2) ++ numsL l 2
theorem wire_length (l : List Int) : (wire l).length = 2 + l.length * 2 := by simp [wire, bigL_length, numsL_length]
set_option maxRecDepth 100000 in
theorem enc_any (A : Option Addr) (c : Nat) (l : List Int) (w : World) (hn : l.length ≤ 32767) (hs : Sl w A (l.map (Value.int .u16))) (hw : ∀ n ∈ l, (Lit.int .u16 n).wf = true) :
    Calls Tryd.prog 109 #[.slice A l.length c] w fun e w' => ∃ v, e = .returned v ∧ w'.ownsRow w.heap.size 5 1 v (2 + l.length * 2) (cells8 (wire l)) ∧ Below w.heap.size w w' := by
  have HS := hide hs
  have HW := hide hw
  clear hs hw
  have hW1 : IntKind.i64.wrap ((l.length : Int) * 2) = (l.length : Int) * 2 := by rw [IntKind.wrap_i64]; omega
  have hW4 : IntKind.u16.wrap ((l.length : Int) * 2) = (l.length : Int) * 2 := by rw [IntKind.wrap_u16]; omega
  go_enter Tryd.func109, Tryd.ntmps109
  go_wp2_with fail
  have HK0 := Lib.hid (Blk.new w 5 [.int .u8 0, .int .u8 0])
  have hw0 : IntKind.i64.wrap 0 = 0 := by decide
  go_region_held3 (fun w' => True) (first | trivial | go_keep) (first | (go_at_call 90; refine (put16_blk w.heap.size w.heap.size 0 _ _ _ _ (l.length * 2) _ rfl (by omega) (by omega) (by omega) (by exact HK0.out.drew) (Nat.le_refl _) (by decide)).mono ?_; rintro e w1 ⟨rfl, hk1, hg1, hb1⟩))
  have HB1 := Lib.hid (show Below w.heap.size w w1 from (((Below.refl _ _).alloc (Nat.le_refl _) _).drew).trans hb1)
  have HO1 := Lib.hid (show w1.ownsRow w.heap.size 5 1 (.slice (some ⟨w.heap.size, 0, none⟩) 2 2) 2 (cells8 (bigL 2 (l.length * 2))) by
    have k := hk1
    rw [show ([.int .u8 0, .int .u8 0] : List Value) = part [] (0 + 2) from rfl, part_put16 [] 0 0 rfl _ (by omega) (by omega), show ((l.length : Int) * 2).toNat = l.length * 2 by omega, part_full] at k
    exact Blk.to_own (rest := []) (by simpa using k) (Nat.le_refl _) (by simp [cells8_length, bigL_length]) (by simp [cells8_length, bigL_length]) (by decide))
  clear hk1 hg1 hb1 HK0 hW1 hW4
  go_wp2
  go_loopw [3, 5, 20] (fun v _ i wr => ∃ k : Nat, k ≤ l.length ∧ i = .int .i64 k ∧ wr.ownsRow w.heap.size 5 1 v (2 + 2 * k) (cells8 (bigL 2 (l.length * 2) ++ numsL (l.take k) 2)) ∧ Below w.heap.size w wr) (fun _ _ i _ => l.length - (intOf i).toNat)
  case atStart => exact ⟨0, by omega, rfl, by simpa [numsL] using HO1.out, HB1.out⟩
  case round =>
    obtain ⟨k, hk, rfl, hown, hb'⟩ := hrel
    have HB := Lib.hid hb'
    have HO := Lib.hid hown
    clear hb' hown HO1 HB1
    by_cases hlt : k < l.length
    · obtain ⟨x, hx⟩ : ∃ x, l[k]? = some x := ⟨_, List.getElem?_eq_getElem hlt⟩
      obtain ⟨bb, off, rfl, hc⟩ := (HS.out.below HB.out) k (.int .u16 x) (by rw [List.getElem?_map, hx]; rfl)
      obtain ⟨hx1, hx2⟩ := wf_u16 (HW.out x (List.mem_of_getElem? hx))
      have HX := Lib.hid hx
      clear hx
      go_wp2_with (at_builtin; refine wpList_append_lit el8 rfl _ _ rfl rfl HO.out rfl rfl (by simp [Value.oneCell']) (by omega) (by unfold maxLen; omega) HB.out.size ?_; intro v4 w4 hown4 hb4 hat4)
      obtain ⟨g4, c4, hv4, hc4, hm4, hg4, hl4⟩ := own_form hown4 (by omega)
      subst hv4
      have HO4 := Lib.hid hown4
      have HB4 := Lib.hid (HB.out.trans hb4)
      clear hown4 hb4 hat4
      obtain ⟨N, hN⟩ : ∃ N, N = 2 + 2 * k + 2 := ⟨_, rfl⟩
      rw [← hN] at HO4 hc4 ⊢
      have hN2 : 2 ≤ N := by omega
      have hNle : N ≤ 65536 := by omega
      have HN := Lib.hid hN
      clear hN
      have hw : IntKind.i64.wrap ((N : Int) - 2) = ((N - 2 : Nat) : Int) := by rw [IntKind.wrap_i64]; omega
      have hlo : (0 : Int) ≤ ((N - 2 : Nat) : Int) := by omega
      have hhi : ((N - 2 : Nat) : Int) ≤ (N : Int) := by omega
      have hne : ¬ c4 = N - 2 := by omega
      go_region_held3 (fun w' => True) (first | trivial | go_keep) (first | (go_at_call 90; refine (put16_own w.heap.size g4 (N - 2) _ _ N c4 _ x x _ rfl hx1 hx2 (by omega) (by exact HO4.out.drew) (by omega)).mono ?_; rintro e w5 ⟨rfl, hown5, hg5, hb5⟩))
      have HO5 := Lib.hid hown5
      have HB5 := Lib.hid (HB4.out.drew.trans hb5)
      clear hown5 hg5 hb5 HO4 HB4 hw
      go_wp2
      go_roundw
      case rel =>
        refine ⟨k + 1, by omega, by go_num, ?_, HB5.out⟩
        have h := HO5.out
        have hN := HN.out
        rw [put_tail _ _ _ x (N - 2) (by simp only [List.length_append, bigL_length, numsL_length, List.length_take]; omega) hx1 hx2, List.append_assoc, show numsL (l.take k) 2 ++ bigL 2 x.toNat = numsL (l.take (k + 1)) 2 from take_flat_succ _ l k x HX.out] at h
        rw [show 2 + 2 * (k + 1) = N by omega]
        exact h
      case measure => simp [intOf]; omega
    · obtain rfl : k = l.length := by omega
      rw [List.take_length] at HO
      go_wp2
      go_ret
      exact ⟨_, rfl, by rw [show 2 + 2 * l.length = 2 + l.length * 2 by omega] at HO; exact HO.out, HB.out⟩
theorem keep_cf {w w' : World} {b i : Nat} {v : Value} (hb : Below w.heap.size w w') (hl : b < w.heap.size) (h : w.cell? ⟨b, i, none⟩ = some v ∧ w.frozen? ⟨b, i, none⟩ = false) : w'.cell? ⟨b, i, none⟩ = some v ∧ w'.frozen? ⟨b, i, none⟩ = false :=
  ⟨(hb.cell (p := ⟨b, i, none⟩) hl).trans h.1, (hb.frozen (p := ⟨b, i, none⟩) hl).trans h.2⟩
theorem elU16 : Elem Tryd.prog 29 22 1 2 := Elem.of Tryd.underlying29 (z := .int .u16 0) (by kernel_rfl) rfl (by decide)
set_option maxRecDepth 100000 in
/-- decodeCipherSuiteIDs: with all the bytes that the count asks for, so many numbers; with fewer an error. -/
theorem dec_any (b cap : Nat) (l : List UInt8) (n : Nat) (x : Addr) (w : World) (hn : n ≤ 32767) (h2 : 2 ≤ l.length) (hc : be16 l = n * 2) (hcap : l.length ≤ cap) (hs : Sl w (some ⟨b, 0, none⟩) (cells8 l)) (hE : w.cell? ⟨16, 0, none⟩ = some (.iface 205 (.pointer (some x)))) :
    Calls Tryd.prog 110 #[.slice (some ⟨b, 0, none⟩) l.length cap] w fun e w' => ((2 + n * 2 ≤ l.length ∧ ∃ A c, e = .returned (.tuple #[.slice A n c, .nilIface])) ∨ (l.length < 2 + n * 2 ∧ e = .returned (.tuple #[.slice none 0 0, .iface 205 (.pointer (some x))]))) ∧ Below w.heap.size w w' := by
  have HS := hide hs
  have hb0 : b < w.heap.size := by
    obtain ⟨b', o', e, hcc⟩ := hs 0 _ (cells8_get l 0 (by omega))
    injection e with e; injection e with e1 e2; subst e1
    exact World.block_lt_of_cell? w _ hcc
  clear hs
  have h2i : (2 : Int) ≤ (l.length : Int) := by omega
  go_enter Tryd.func110, Tryd.ntmps110
  go_wp2_with fail
  have hq1 : IntKind.i64.wrap ((n : Int) * 2) = (n : Int) * 2 := by rw [IntKind.wrap_i64]; omega
  have hq2 : ((n : Int) * 2).tdiv 2 = n := by rw [Int.tdiv_eq_ediv_of_nonneg (by omega)]; omega
  have hq3 : IntKind.i64.wrap (n : Int) = n := by rw [IntKind.wrap_i64]; omega
  go_region_held3 (fun w' => True) (first | trivial | go_keep) (first | (go_at_call 87; refine (get16 b 0 _ _ l _ (by omega) (by omega) (by exact HS.out.drew)).mono ?_; rintro e w1 ⟨rfl, hb1⟩))
  have HB1 := Lib.hid (show Below w.heap.size w w1 from (Below.refl _ _).drew.trans hb1)
  have hE1 := keep_cell HB1.out hE
  have HS1 := Lib.hid (HS.out.below HB1.out)
  clear hb1
  have hmk := fun W : World => run_make_row' (P := Tryd.prog) 29 22 (.int .u16 0) 2 Tryd.underlying29 (by kernel_rfl) rfl .i64 .i64 n (by omega) (by omega) W
  have HK0 := Lib.hid (show ∃ cs : List Value, cs.length = n ∧ Blk (w1.alloc (.cells (madeCells #[Value.int .u16 0] n) 22)) w1.heap.size 22 cs from ⟨(madeCells #[Value.int .u16 0] n).toList, by simp [size_madeCells], by have := Blk.new w1 22 (madeCells #[Value.int .u16 0] n).toList; simpa using this⟩)
  go_wp2
  obtain ⟨cs0, hcs0, hK0⟩ := HK0.out
  have HB2 := Lib.hid (HB1.out.alloc HB1.out.size (.cells (madeCells #[Value.int .u16 0] n) 22))
  have HK2 := Lib.hid hK0
  have HG := Lib.hid HB1.out.size
  clear hK0 HK0 hmk hq1 hq2
  generalize w1.alloc (.cells (madeCells #[Value.int .u16 0] n) 22) = w2 at *
  obtain ⟨G, hG⟩ : ∃ G, G = w1.heap.size := ⟨_, rfl⟩
  rw [← hG] at HK2 ⊢
  have hGw : w.heap.size ≤ G := by have := HG.out; omega
  clear hG HG hE1 HS1 HB1
  go_loopw [6, 20] (fun _ i wr => ∃ k : Nat, k ≤ n ∧ i = .int .i64 k ∧ 2 + k * 2 ≤ l.length ∧ (∃ cs : List Value, cs.length = n ∧ Blk wr G 22 cs) ∧ Below w.heap.size w wr) (fun _ i _ => n - (intOf i).toNat)
  case atStart => exact ⟨0, by omega, rfl, by omega, ⟨cs0, hcs0, HK2.out⟩, HB2.out⟩
  case round =>
    obtain ⟨k, hk, rfl, hkl, ⟨cs, hcs, hblk⟩, hb'⟩ := hrel
    have HB := Lib.hid hb'
    have HK := Lib.hid hblk
    have hEr := keep_cell hb' hE
    clear hb' hblk HB2 HK2
    by_cases hlt : k < n
    · have hw1 : IntKind.i64.wrap ((k : Int) * 2) = (k : Int) * 2 := by rw [IntKind.wrap_i64]; omega
      have hw2 : IntKind.i64.wrap ((k : Int) * 2 + 4) = (k : Int) * 2 + 4 := by rw [IntKind.wrap_i64]; omega
      by_cases hle : l.length < k * 2 + 4
      · have hd : (l.length : Int) < (k : Int) * 2 + 4 := by omega
        go_wp2
        go_quiet (fail)
        go_wp2
        go_ret2
        exact ⟨.inr ⟨by omega, rfl⟩, below_drewN HB.out _⟩
      · have hd : ¬ (l.length : Int) < (k : Int) * 2 + 4 := by omega
        obtain ⟨N, hN⟩ : ∃ N, N = k * 2 + 2 := ⟨_, rfl⟩
        have hw3 : IntKind.i64.wrap ((k : Int) * 2 + 2) = (N : Int) := by rw [IntKind.wrap_i64]; omega
        have hlo : (0 : Int) ≤ (N : Int) := by omega
        have hhi : (N : Int) ≤ (l.length : Int) := by omega
        have hne : ¬ cap = N := by omega
        have hN2 : N + 2 ≤ l.length := by omega
        have HN := Lib.hid hN
        clear hN
        have HSr := Lib.hid (HS.out.below HB.out)
        have hki : (k : Int) < (n : Int) := by omega
        have hcell : ∃ z, wr.cell? ⟨G, k, none⟩ = some z := ⟨cs[k], by rw [HK.out.cell]; exact List.getElem?_eq_getElem (by omega)⟩
        obtain ⟨z, hz⟩ := hcell
        have fz := HK.out.frozen k
        have hGl := HK.out.lt
        have hcf : wr.cell? ⟨G, k, none⟩ = some z ∧ wr.frozen? ⟨G, k, none⟩ = false := ⟨hz, fz⟩
        go_wp2
        go_region_held3 (fun w' => True) (first | trivial | go_keep) (first | (go_at_call 87; refine (get16 b N _ _ (l.drop N) _ (by omega) (by rw [List.length_drop]; omega) (by exact (cells8_drop l N ▸ Nat.zero_add N ▸ HSr.out.drop N).drew)).mono ?_; rintro e w5 ⟨rfl, hb5⟩; obtain ⟨c5, f5⟩ := keep_cf ((Below.refl _ _).drew.trans hb5) hGl hcf))
        have HB5 := Lib.hid (below_set (HB.out.drew.trans (hb5.mono HB.out.size)) (p := ⟨G, k, none⟩) hGw (.int .u16 (be16 (l.drop N) : Int)))
        have HK5 := Lib.hid ((HK.out.below (B := wr.heap.size) (show Below wr.heap.size wr w5 from (Below.refl _ _).drew.trans hb5) hGl).set_ k (.int .u16 (be16 (l.drop N) : Int)))
        go_wp2
        go_roundw
        case rel => exact ⟨k + 1, by omega, by go_num, by have := HN.out; omega, ⟨_, by rw [List.length_set]; exact hcs, HK5.out⟩, HB5.out⟩
        case measure => simp [intOf]; omega
    · obtain rfl : k = n := by omega
      go_wp2
      go_ret2
      exact ⟨.inl ⟨by omega, _, _, rfl⟩, HB.out⟩
set_option maxRecDepth 100000 in
theorem dec_short (b cap : Nat) (l : List UInt8) (x : Addr) (w : World) (h2 : l.length < 2) (hE : w.cell? ⟨16, 0, none⟩ = some (.iface 205 (.pointer (some x)))) :
    Calls Tryd.prog 110 #[.slice (some ⟨b, 0, none⟩) l.length cap] w fun e w' => e = .returned (.tuple #[.slice none 0 0, .iface 205 (.pointer (some x))]) ∧ Below w.heap.size w w' := by
  have h2i : (l.length : Int) < 2 := by omega
  go_enter Tryd.func110, Tryd.ntmps110
  go_wp2
  go_quiet (fail)
  go_wp2
  go_ret2
  exact ⟨rfl, below_drewN (Below.refl _ _) _⟩
set_option maxRecDepth 100000 in
theorem write_any (A : Option Addr) (c : Nat) (l : List Int) (w : World) (hn : l.length ≤ 32767) (hs : Sl w A (l.map (Value.int .u16))) (hw : ∀ n ∈ l, (Lit.int .u16 n).wf = true) :
    Calls Tryd.prog 40 #[.slice A l.length c] w fun e w' => e = .returned (.string (S (wire l))) ∧ Below w.heap.size w w' := by
  have HS := hide hs
  have HW := hide hw
  clear hs hw
  go_enter Tryd.func40, Tryd.ntmps40
  go_wp2_with fail
  go_enter Tryd.func82, Tryd.ntmps82
  go_wp2_with fail
  refine (enc_any A c l w hn HS.out HW.out).mono ?_
  rintro e w1 ⟨v, rfl, hown, hb1⟩
  obtain ⟨A1, c1, rfl, hs1, _, _⟩ := own_sl hown
  have hstr := run_string_of (P := Tryd.prog) w1 Tryd.underlying48 Tryd.underlying5 Tryd.underlying9 (A := A1) (c := c1) (n := 2 + l.length * 2) (wire_length l).symm hs1
  have HB1 := Lib.hid hb1
  clear hs1 hown hb1
  go_wp2
  go_ret
  exact ⟨rfl, HB1.out⟩
set_option maxRecDepth 100000 in
theorem read_any (l : List UInt8) (n : Nat) (w : World) (hn : n ≤ 32767) (hc : 2 ≤ l.length → be16 l = n * 2) (hE : ErrAt 205 16 w) :
    Calls Tryd.prog 41 #[.string (S l)] w fun e w' => ((2 + n * 2 ≤ l.length ∧ ∃ A c, e = .returned (.tuple #[.slice A n c, .bool true])) ∨ (l.length < 2 + n * 2 ∧ e = .returned (.tuple #[.slice none 0 0, .bool false]))) ∧ Below w.heap.size w w' := by
  obtain ⟨x, hx⟩ := hE
  have HX := Lib.hid hx
  clear hx
  go_enter Tryd.func41, Tryd.ntmps41
  go_wp2_with (refine wpList_bytes rfl _ rfl Tryd.underlying9 Tryd.underlying48 Tryd.underlying5 rfl w.heap.size (by simp) ?_; intro cap w1 hcap hs1 hb1 hlt1 hx1; have HCAP := hide hcap; have HS1 := hide hs1; have HB1 := hide hb1; clear hcap hs1 hb1 hlt1 hx1)
  go_enter Tryd.func83, Tryd.ntmps83
  go_wp2_with fail
  by_cases h2 : 2 ≤ l.length
  · refine (dec_any w.heap.size cap l n x w1 hn h2 (hc h2) HCAP.out HS1.out (keep_cell HB1.out HX.out)).mono ?_
    rintro e w2 ⟨⟨hle, A, c, rfl⟩ | ⟨hlt, rfl⟩, hb2⟩
    · have HB2 := Lib.hid (HB1.out.trans (hb2.mono HB1.out.size))
      clear hb2
      go_wp2
      go_ret2
      exact ⟨.inl ⟨hle, _, _, rfl⟩, HB2.out⟩
    · have HB2 := Lib.hid (HB1.out.trans (hb2.mono HB1.out.size))
      clear hb2
      go_wp2
      go_ret2
      exact ⟨.inr ⟨hlt, rfl⟩, HB2.out⟩
  · refine (dec_short w.heap.size cap l x w1 (by omega) (keep_cell HB1.out HX.out)).mono ?_
    rintro e w2 ⟨rfl, hb2⟩
    have HB2 := Lib.hid (HB1.out.trans (hb2.mono HB1.out.size))
    clear hb2
    go_wp2
    go_ret2
    exact ⟨.inr ⟨by omega, rfl⟩, HB2.out⟩
theorem be_wire (l : List Int) (h : l.length ≤ 32767) (k : Nat) (hk : 2 ≤ ((wire l).take k).length) : be16 ((wire l).take k) = l.length * 2 := by
  have h2 : 2 ≤ k := by rw [List.length_take] at hk; omega
  have h3 : (wire l).take k = bigL 2 (l.length * 2) ++ (numsL l 2).take (k - 2) := by
    rw [wire, List.take_append, bigL_length, List.take_of_length_le (by rw [bigL_length]; exact h2)]
  rw [h3]
  exact be16_big _ (by omega) _
theorem be_wire0 (l : List Int) (h : l.length ≤ 32767) : be16 (wire l) = l.length * 2 := be16_big _ (by omega) _

set_option maxRecDepth 100000 in
theorem walk (A0 : Option Addr) (c0 : Nat) (a0 : List Int) (a1 : Int) (w1 : (Lit.int .i64 a1).wf = true) (w : World) (hl0 : a0.length ≤ c0) (hm0 : c0 ≤ maxLen) (hs0 : Sl w A0 (a0.map (Value.int .u16))) (w0 : ∀ n ∈ a0, (Lit.int .u16 n).wf = true) (hE16 : ErrAt 205 16 w) :
    Calls Tryd.prog 13 #[.slice A0 a0.length c0, .int .i64 a1] w fun e w' => e = .returned (.bool true) ∧ Below w.heap.size w w' := by
  have b1 := bounds_i64 w1
  have hS := S_size
  have hX := S_extract
  have hV := wire_length a0
  have HS := hide hs0
  have HW := hide w0
  have HE := hide hE16
  clear hs0 w0 w1 hE16
  by_cases hz0 : 2147483647 < (a0.length : Int)
  · go_enter Tryd.func13, Tryd.ntmps13
    go_wp2
    go_ret
    exact ⟨rfl, Below.refl _ _⟩
  by_cases hz1 : 32767 < (a0.length : Int)
  · go_enter Tryd.func13, Tryd.ntmps13
    go_wp2
    go_ret
    exact ⟨rfl, Below.refl _ _⟩
  have hn : a0.length ≤ 32767 := by omega
  go_enter Tryd.func13, Tryd.ntmps13
  go_wp2_with fail
  refine (write_any A0 c0 a0 w hn HS.out HW.out).mono ?_
  rintro e w1 ⟨rfl, hb1⟩
  have HB1 := Lib.hid hb1
  clear hb1
  have hnl : ¬ (2 : Int) + (a0.length : Int) * 2 < 2 := by omega
  by_cases h0 : a1 < 1
  · go_wp2
    go_ret
    exact ⟨rfl, HB1.out⟩
  by_cases h5 : 2 + (a0.length : Int) * 2 < a1
  · go_wp2
    go_ret
    exact ⟨rfl, HB1.out⟩
  obtain ⟨k, rfl⟩ : ∃ k : Nat, a1 = 2 + (a0.length : Int) * 2 - (k : Int) := ⟨(2 + (a0.length : Int) * 2 - a1).toNat, by omega⟩
  have hk : IntKind.i64.wrap (2 + (a0.length : Int) * 2 - (2 + (a0.length : Int) * 2 - (k : Int))) = k := by rw [IntKind.wrap_i64]; omega
  have hk5 : k < 2 + a0.length * 2 := by omega
  go_wp2_with fail
  refine (read_any (wire a0) a0.length w1 hn (fun _ => be_wire0 a0 hn) (HE.out.below HB1.out)).mono ?_
  rintro e w2 ⟨⟨hle, A, c, rfl⟩ | ⟨hlt, rfl⟩, hb2⟩
  · have HB2 := Lib.hid (HB1.out.trans (hb2.mono HB1.out.size))
    clear hb2
    go_wp2_with fail
    refine (read_any ((wire a0).take k) a0.length _ hn (be_wire a0 hn k) (by exact HE.out.below HB2.out)).mono ?_
    rintro e w3 ⟨⟨hle3, A3, c3, rfl⟩ | ⟨hlt3, rfl⟩, hb3⟩
    · exfalso
      rw [List.length_take, wire_length] at hle3
      omega
    · have HB3 := Lib.hid (HB2.out.trans (hb3.mono HB2.out.size))
      clear hb3
      go_wp2
      go_ret
      exact ⟨ret_bool (by simp), HB3.out⟩
  · exfalso
    rw [wire_length] at hlt
    omega
abbrev laidL : List (String × DataW Unit) := [("pub-convoy/pub/dtls/pkg/protocol/handshake.errBufferTooSmall", Rows.laid_pub_convoy_pub_dtls_pkg_protocol_handshake_errBufferTooSmall)]
theorem door_met (os : Os) (args : Array Value) : laidMetH Tryd.prog laidL ((World.doorLaid Tryd.prog 323 os).forCall (fun _ _ => 0) ⟨#[], args, []⟩).memory :=
  laidMetH_of_parts3 (fuel := 8) (laidMet_of_run' 8 (by kernel_rfl) (by kernel_rfl)) (by kernel_rfl) (by kernel_rfl)
theorem of_laid {W : World} (h : laidMetH Tryd.prog laidL W) : ErrAt 205 16 W := by
  rw [MakeChecks.laidMetH_plain _ _ _ (by kernel_rfl)] at h
  have k0 := errAt_of_laid h (show Tryd.prog.globalNamed "pub-convoy/pub/dtls/pkg/protocol/handshake.errBufferTooSmall" = some 16 by kernel_rfl) (by kernel_rfl)
  exact k0
set_option maxRecDepth 100000 in
theorem lifted (os : Os) (started : os.Started) (H : Type) (enc : TypeId × Value → H) :
    ReturnsInHanded {} Tryd.checked os 13 .any (fun w args => (Rows.fnSuitesCutSpec.pre enc Tryd.prog Tryd.f13 [] false w args ∧ laidMetH Tryd.prog laidL w) ∧ sizedMet enc Tryd.prog Tryd.f13 (OpenSpec.ofChange Rows.fnSuitesCutSpec) false w args)
      (Rows.fnSuitesCutSpec.post enc Tryd.prog Tryd.f13 false true false false) := by
  refine returnsInHanded_of_change_and (C := Tryd.checked) (X := fun w _ => laidMetH Tryd.prog laidL w) (fun _ _ _ hh h => h.of_heap hh) own started (by kernel_rfl) Tryd.func13
    (ChangeSpec.witness_shaped (enc := enc) (C := Tryd.checked) (os := os) (X := fun w _ => laidMetH Tryd.prog laidL w) false (World.doorLaid Tryd.prog 323 os) #[.slice none 0 0, .int .i64 0] 8 rfl (World.shaped_of_RefB (by kernel_rfl) (by kernel_rfl)) (by kernel_rfl) (by kernel_rfl) (by kernel_rfl) (door_met os _)) ?_
  intro W base args ds gs before hval0 hW _ _ hL _
  have hE16 := of_laid hL
  have hval : ∀ (j : Nat) t v, Tryd.f13.params[j]? = some t → args[j]? = some v → Value.okWide Tryd.prog W .any base t v := hval0
  have hW' := hW
  obtain ⟨p, q, hA0, hV, rfl, hfz, hnd⟩ := hW
  have hA : DataW.TrodAll enc Tryd.prog W 0 (fun _ => true) true Tryd.f13.params.toList args.toList ds p := hA0
  rw [Tryd.params13] at hA hval
  obtain ⟨v0, vs0, d0, ds0, p0, q0, hargs, rfl, rfl, h0, r0⟩ := trodAll_cons hA
  obtain ⟨v1, vs1, d1, ds1, p1, q1, rfl, rfl, rfl, h1, r1⟩ := trodAll_cons r0
  obtain ⟨rfl, rfl, rfl⟩ := trodAll_nil r1
  obtain rfl : args = #[v0, v1] := by cases args; simp_all
  obtain ⟨rfl, rfl⟩ := trodVars_none hV
  obtain ⟨A0, c0, a0, rfl, hl0, hm0, hs0, w0⟩ := open_ints_sl Tryd.underlying29 Tryd.underlying22 (by kernel_rfl) (hval 0 29 v0 rfl rfl) h0
  obtain ⟨a1, rfl, rfl, rfl, w1⟩ := open_int Tryd.underlying3 (hval 1 3 v1 rfl rfl) h1
  clear hA0 hval0
  refine (walk A0 c0 a0 a1 w1 W hl0 hm0 hs0 w0 hE16).mono fun e W' ⟨he, hb⟩ => ?_
  subst he
  exact ⟨_, rfl, law_post laidOut (by kernel_rfl) rfl Tryd.underlying4 rfl hW' rfl rfl rfl hb⟩

theorem over : Rows.fnSuitesCutRow.holds Tryd.pinned (OpenSpec.ofChange Rows.fnSuitesCutSpec) :=
  OpenClaim.holds_of_wide 13 Tryd.f13 rfl rfl rfl rfl rfl rfl rfl ⟨rfl, rfl, rfl, rfl, rfl⟩ rfl rfl rfl rfl rfl (by kernel_rfl) Tryd.func13 (by kernel_rfl)
    (of_decide_eq_true (by kernel_rfl)) (by unfold Func.isWrapper; first | (rw [if_pos (by decide +kernel)]; kernel_rfl) | (rw [if_neg (by decide +kernel)]; exact ⟨rfl, rfl⟩))
    (fun os started H enc _ => lifted os started H enc)

/-- THE STATEMENT: the tied card. -/
theorem proved : Rows.FnSuitesCutCardSaid :=
  Claim7.holds_tied_plain_at .later [] [.sentinel] true (true, "20b3b98fcc8707e4b2223a6ae671195b166d92b4110cce829ed6e3bbef5fa288") false
    over (fun _ h => by cases h) (by kernel_rfl) (fun _ h => by cases h) fnSuitesCut_row_tie rfl ⟨rfl, rfl⟩ (by kernel_rfl) rfl
    (fun f fn hf hfn => by
      obtain rfl : f = 13 := Option.some.inj ((show Tryd.prog.funcNamed "pub-convoy/laws.FnSuitesCut" = some 13 by kernel_rfl).symm.trans hf) |>.symm
      obtain rfl : fn = Tryd.f13 := (Option.some.inj (Tryd.func13.symm.trans hfn)).symm
      exact ⟨by kernel_rfl, fun j t ht => by
        rw [Tryd.params13] at ht
        have hm : t ∈ [29, 3] := by simpa using Array.mem_of_getElem? ht
        have hall : ([29, 3].all fun u => !Tryd.prog.wantsStandIn u) = true := by kernel_rfl
        exact (show Tryd.prog.wantsStandIn t = false by simpa using List.all_eq_true.1 hall t hm)⟩)
    (by kernel_rfl)
#print axioms proved

end Go.Proofs.YthfpfakdchhodaaDoor.fnSuitesCut
