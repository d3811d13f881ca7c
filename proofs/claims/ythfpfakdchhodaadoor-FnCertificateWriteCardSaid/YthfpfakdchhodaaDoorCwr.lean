/- FnCertificateWrite: for every list of certificates the law returns true. -/
import Derived.Test.YthfpfakdchhodaaDoorCwrA
import Derived.Test.YthfpfakdchhodaaDoorSame
import Derived.Test.YthfpfakdchhodaaDoorAppendStr
namespace Go.Proofs.YthfpfakdchhodaaDoor.fnCertificateWrite
open Go.ChangeShapes Go.WideShapes Go.ChangeAt Go.RowKit Go.Proofs.YthfpfakdchhodaaDoor
open Go.ChangeMaps (open_string shut_string)
set_option linter.unusedVariables false

/-- impl.Message of certificates as a value. -/
abbrev msgC (l : Value) : Array Value := #[.int .u8 11, .bool false, .int .u8 0, .int .u8 0, .int .u32 0, .string ⟨#[]⟩, .string ⟨#[]⟩, .string ⟨#[]⟩, .slice none 0 0, .slice none 0 0, .slice none 0 0, l, .slice none 0 0, .slice none 0 0, .int .u16 0, .int .u16 0, .string ⟨#[]⟩, .string ⟨#[]⟩, .string ⟨#[]⟩, .int .i64 0, .int .u8 0, .int .u16 0, .string ⟨#[]⟩, .string ⟨#[]⟩, .slice none 0 0]
set_option maxRecDepth 100000 in
theorem make_any (A : Option Addr) (c : Nat) (L : List (List UInt8)) (w : World) (hn : L.length ≤ 100000) (hs : Sl w A (strs L)) :
    Calls Tryd.prog 50 #[.agg (msgC (.slice A L.length c))] w fun e w' => ∃ g A' c' vs, e = .returned (.pointer (some ⟨g, 0, none⟩)) ∧ Blk w' g 179 [.slice A' L.length c'] ∧ Sl w' A' vs ∧ Blobs w' L vs ∧ Below w.heap.size w w' := by
  have HS := Lib.hid hs
  clear hs
  go_enter Tryd.func50, Tryd.ntmps50
  have HS1 := Lib.hid (show ∀ o : Obj, Sl (w.alloc o) A (strs L) from fun o => HS.out.below ((Below.refl _ _).alloc (Nat.le_refl _) o))
  go_wp2_with fail
  refine (raw_any A c L _ hn (HS1.out _)).mono ?_
  rintro e w1 ⟨v, vs, rfl, hown, hbl, hb⟩
  have HBL := Lib.hid hbl
  have HB := Lib.hid (show Below w.heap.size w w1 from ((Below.refl _ _).alloc (Nat.le_refl _) _).trans (hb.mono (by simp)))
  obtain ⟨A', c', rfl, hs', _, _⟩ := own_sl hown
  have HS' := Lib.hid hs'
  clear hown hbl hb hs'
  go_wp2
  go_ret
  exact ⟨_, A', c', vs, rfl, Blk.new w1 _ _, HS'.out.below ((Below.refl _ _).alloc (Nat.le_refl _) _), HBL.out.below ((Below.refl _ _).alloc (Nat.le_refl _) _), HB.out.alloc HB.out.size _⟩
set_option maxRecDepth 100000 in
theorem write_ok (A : Option Addr) (c : Nat) (L : List (List UInt8)) (w : World) (hw : weight 3 L ≤ 60000) (hL : ∀ x ∈ L, 1 ≤ x.length) (hs : Sl w A (strs L)) :
    Calls Tryd.prog 23 #[.agg (msgC (.slice A L.length c))] w fun e w' => e = .returned (.tuple #[.string (S (vecL (textsL 3 L) 3)), .bool true]) ∧ Below w.heap.size w w' := by
  have HS := Lib.hid hs
  have HLs := Lib.hid hL
  have hn3 := weight_len3 L
  clear hs hL
  go_enter Tryd.func23, Tryd.ntmps23
  have hblk := Lib.hid (Blk.new w 52 (msgC (.slice A L.length c)).toList)
  have HS1 := Lib.hid (show ∀ o : Obj, Sl (w.alloc o) A (strs L) from fun o => HS.out.below ((Below.refl _ _).alloc (Nat.le_refl _) o))
  go_wp2_with (refine wpList_load_mid rfl _ (.tmp 1) rfl _ _ rfl (msgC (.slice A L.length c)).toList _ hblk.out.rangeAt Tryd.underlying52 rfl (by kernel_rfl) ?_)
  refine (make_any A c L _ (by omega) (HS1.out _)).mono ?_
  rintro e w1 ⟨g, A', c', vs, rfl, hk1, hs1, hbl1, hb1⟩
  have HK1 := Lib.hid hk1
  have HS1 := Lib.hid hs1
  have HBL1 := Lib.hid hbl1
  have HB1 := Lib.hid (show Below w.heap.size w w1 from ((Below.refl _ _).alloc (Nat.le_refl _) _).trans (hb1.mono (by simp)))
  clear hk1 hs1 hb1 hbl1
  go_wp2_with fail
  refine (marshal_any g A' c' vs L w1 hw HLs.out HK1.out HS1.out HBL1.out).mono ?_
  rintro e w2 ⟨h, c2, rfl, hs2, hb2⟩
  have HS2 := Lib.hid hs2
  have HB2 := Lib.hid (HB1.out.trans (hb2.mono HB1.out.size))
  clear hs2 hb2
  go_wp2_with fail
  refine (text_ok (some ⟨h, 0, none⟩) c2 _ (vecL (textsL 3 L) 3) w2 rfl HS2.out).mono ?_
  rintro e w3 ⟨rfl, rfl⟩
  go_wp2
  go_ret2
  exact ⟨rfl, HB2.out⟩

set_option maxRecDepth 3000000 in
set_option maxHeartbeats 8000000 in
theorem walk (A0 : Option Addr) (c0 : Nat) (a0 : List ByteArray) (w : World) (hl0 : a0.length ≤ c0) (hm0 : c0 ≤ maxLen) (hs0 : Sl w A0 (a0.map Value.string)) (w0 : ∀ s ∈ a0, s.size ≤ maxLen) (hE7 : ErrAt 205 7 w) :
    Calls Tryd.prog 5 #[.slice A0 a0.length c0] w fun e w' => e = .returned (.bool true) ∧ Below w.heap.size w w' := by
  obtain ⟨L, rfl⟩ := ex_strs a0
  have HS := Lib.hid (show Sl w A0 (strs L) by simpa [strs, Function.comp_def] using hs0)
  have hlen : (L.map S).length = L.length := List.length_map ..
  rw [hlen]
  clear hs0 w0 hE7 hl0 hm0 hlen
  go_enter Tryd.func5, Tryd.ntmps5
  go_wp2_with fail
  refine (fits_any A0 c0 L w HS.out).mono ?_
  rintro e w1 ⟨f, rfl, hf, hb1⟩
  have HB1 := Lib.hid hb1
  clear hb1
  cases f with
  | false =>
    go_wp2
    go_ret
    exact ⟨rfl, HB1.out⟩
  | true =>
    obtain ⟨hn1, hn2⟩ := hf rfl
    have HN2 := Lib.hid hn2
    clear hf hn2
    go_wp2_with fail
    refine (between_any A0 c0 L 1 20000 w1 hn1 (by omega) (by omega) HN2.out (HS.out.below HB1.out)).mono ?_
    rintro e w2 ⟨g, rfl, hg, hb2⟩
    have HB2 := Lib.hid (HB1.out.trans (hb2.mono HB1.out.size))
    clear hb2
    cases g with
    | false =>
      go_wp2
      go_ret
      exact ⟨rfl, HB2.out⟩
    | true =>
      obtain ⟨hp, hwt, hall⟩ := hg rfl
      have HALL := Lib.hid (show ∀ x ∈ L, 1 ≤ x.length from fun x hx => (hall x hx).1)
      have HW := Lib.hid hwt
      have HTL := Lib.hid (textsL_length 3 L)
      clear hg hall hwt
      go_wp2_with fail
      refine (write_ok A0 c0 L w2 HW.out HALL.out (HS.out.below HB2.out)).mono ?_
      rintro e w3 ⟨rfl, hb3⟩
      have HB3 := Lib.hid (HB2.out.trans (hb3.mono HB2.out.size))
      clear hb3
      go_wp2_with fail
      refine (texts_any A0 c0 L 3 w3 hn1 (by have := HW.out; omega) (by omega) (HS.out.below HB3.out)).mono ?_
      rintro e w4 ⟨rfl, hb4⟩
      have HB4 := Lib.hid (HB3.out.trans (hb4.mono HB3.out.size))
      clear hb4
      go_wp2_with fail
      refine (vec_any (textsL 3 L) 3 w4 (by have := HW.out; have := HTL.out; omega) (by omega) (by omega)).mono ?_
      rintro e w5 ⟨rfl, hb5⟩
      have HB5 := Lib.hid (HB4.out.trans (hb5.mono HB4.out.size))
      clear hb5
      go_wp2
      go_ret
      exact ⟨ret_bool (by simp), HB5.out⟩
abbrev laidL : List (String × DataW Unit) := [("pub-convoy/pub/dtls/pkg/protocol/handshake.errLengthMismatch", Rows.laid_pub_convoy_pub_dtls_pkg_protocol_handshake_errLengthMismatch)]
theorem door_met (os : Os) (args : Array Value) : laidMetH Tryd.prog laidL ((World.doorLaid Tryd.prog 323 os).forCall (fun _ _ => 0) ⟨#[], args, []⟩).memory :=
  laidMetH_of_parts3 (fuel := 8) (laidMet_of_run' 8 (by kernel_rfl) (by kernel_rfl)) (by kernel_rfl) (by kernel_rfl)
theorem of_laid {W : World} (h : laidMetH Tryd.prog laidL W) : ErrAt 205 7 W := by
  rw [MakeChecks.laidMetH_plain _ _ _ (by kernel_rfl)] at h
  have k0 := errAt_of_laid h (show Tryd.prog.globalNamed "pub-convoy/pub/dtls/pkg/protocol/handshake.errLengthMismatch" = some 7 by kernel_rfl) (by kernel_rfl)
  exact k0
set_option maxRecDepth 100000 in
theorem lifted (os : Os) (started : os.Started) (H : Type) (enc : TypeId × Value → H) :
    ReturnsInHanded {} Tryd.checked os 5 .any (fun w args => (Rows.fnCertificateWriteSpec.pre enc Tryd.prog Tryd.f5 [] false w args ∧ laidMetH Tryd.prog laidL w) ∧ sizedMet enc Tryd.prog Tryd.f5 (OpenSpec.ofChange Rows.fnCertificateWriteSpec) false w args)
      (Rows.fnCertificateWriteSpec.post enc Tryd.prog Tryd.f5 false true false false) := by
  refine returnsInHanded_of_change_and (C := Tryd.checked) (X := fun w _ => laidMetH Tryd.prog laidL w) (fun _ _ _ hh h => h.of_heap hh) own started (by kernel_rfl) Tryd.func5
    (ChangeSpec.witness_shaped (enc := enc) (C := Tryd.checked) (os := os) (X := fun w _ => laidMetH Tryd.prog laidL w) false (World.doorLaid Tryd.prog 323 os) #[.slice none 0 0] 8 rfl (World.shaped_of_RefB (by kernel_rfl) (by kernel_rfl)) (by kernel_rfl) (by kernel_rfl) (by kernel_rfl) (door_met os _)) ?_
  intro W base args ds gs before hval0 hW _ _ hL _
  have hE7 := of_laid hL
  have hval : ∀ (j : Nat) t v, Tryd.f5.params[j]? = some t → args[j]? = some v → Value.okWide Tryd.prog W .any base t v := hval0
  have hW' := hW
  obtain ⟨p, q, hA0, hV, rfl, hfz, hnd⟩ := hW
  have hA : DataW.TrodAll enc Tryd.prog W 0 (fun _ => true) true Tryd.f5.params.toList args.toList ds p := hA0
  rw [Tryd.params5] at hA hval
  obtain ⟨v0, vs0, d0, ds0, p0, q0, hargs, rfl, rfl, h0, r0⟩ := trodAll_cons hA
  obtain ⟨rfl, rfl, rfl⟩ := trodAll_nil r0
  obtain rfl : args = #[v0] := by cases args; simp_all
  obtain ⟨rfl, rfl⟩ := trodVars_none hV
  obtain ⟨A0, c0, a0, rfl, hl0, hm0, hs0, w0⟩ := open_strs_sl Tryd.underlying33 Tryd.underlying9 (by kernel_rfl) (hval 0 33 v0 rfl rfl) h0
  clear hA0 hval0
  refine (walk A0 c0 a0 W hl0 hm0 hs0 w0 hE7).mono fun e W' ⟨he, hb⟩ => ?_
  subst he
  exact ⟨_, rfl, law_post laidOut (by kernel_rfl) rfl Tryd.underlying4 rfl hW' rfl rfl rfl hb⟩

theorem over : Rows.fnCertificateWriteRow.holds Tryd.pinned (OpenSpec.ofChange Rows.fnCertificateWriteSpec) :=
  OpenClaim.holds_of_wide 5 Tryd.f5 rfl rfl rfl rfl rfl rfl rfl ⟨rfl, rfl, rfl, rfl, rfl⟩ rfl rfl rfl rfl rfl (by kernel_rfl) Tryd.func5 (by kernel_rfl)
    (of_decide_eq_true (by kernel_rfl)) (by unfold Func.isWrapper; first | (rw [if_pos (by decide +kernel)]; kernel_rfl) | (rw [if_neg (by decide +kernel)]; exact ⟨rfl, rfl⟩))
    (fun os started H enc _ => lifted os started H enc)

/-- THE STATEMENT: the tied card. -/
theorem proved : Rows.FnCertificateWriteCardSaid :=
  Claim7.holds_tied_plain_at .later [] [.sentinel] true (true, "20b3b98fcc8707e4b2223a6ae671195b166d92b4110cce829ed6e3bbef5fa288") false
    over (fun _ h => by cases h) (by kernel_rfl) (fun _ h => by cases h) fnCertificateWrite_row_tie rfl ⟨rfl, rfl⟩ (by kernel_rfl) rfl
    (fun f fn hf hfn => by
      obtain rfl : f = 5 := Option.some.inj ((show Tryd.prog.funcNamed "pub-convoy/laws.FnCertificateWrite" = some 5 by kernel_rfl).symm.trans hf) |>.symm
      obtain rfl : fn = Tryd.f5 := (Option.some.inj (Tryd.func5.symm.trans hfn)).symm
      exact ⟨by kernel_rfl, fun j t ht => by
        rw [Tryd.params5] at ht
        have hm : t ∈ [33] := by simpa using Array.mem_of_getElem? ht
        have hall : ([33].all fun u => !Tryd.prog.wantsStandIn u) = true := by kernel_rfl
        exact (show Tryd.prog.wantsStandIn t = false by simpa using List.all_eq_true.1 hall t hm)⟩)
    (by kernel_rfl)
#print axioms proved

end Go.Proofs.YthfpfakdchhodaaDoor.fnCertificateWrite
