/- FnRenegotiationCut: for every byte and every number of lacking bytes the law returns true. The three listed sentinels are tied to the program's text. -/
import Derived.Test.YtlofkkmonkdjjaaDoorDoor
import Derived.Test.YtlofkkmonkdjjaaDoorBin
import Derived.Deep.RegionHeld3
namespace Go.Proofs.YtlofkkmonkdjjaaDoor.fnRenegotiationCut
open Go.ChangeShapes Go.WideShapes Go.ChangeAt Go.RowKit Go.Proofs.YtlofkkmonkdjjaaDoor
set_option linter.unusedVariables false

theorem type_any (x : Value) (w : World) : Calls Tryd.prog 57 #[.agg #[x]] w fun e w' => e = .returned (.int .u16 65281) ∧ Below w.heap.size w w' := by
  go_enter Tryd.func57, Tryd.ntmps57
  go_wp2
  go_ret
  exact ⟨rfl, (Below.refl _ _).alloc (Nat.le_refl _) _⟩

set_option maxRecDepth 100000 in
theorem unm_ok (l : List UInt8) (b B0 off cap : Nat) (x0 : Value) (w : World) (hn : l.length = 5) (hcap : l.length ≤ cap) (hb : Blk w b 71 [x0]) (hs : Sl w (some ⟨B0, off, none⟩) (cells8 l)) (hB : B0 < w.heap.size) (hne : B0 ≠ b) (ht : be16 l = 65281) (h1 : be16 (l.drop 2) = 1) :
    Calls Tryd.prog 28 #[.pointer (some ⟨b, 0, none⟩), .slice (some ⟨B0, off, none⟩) l.length cap] w fun e w' => e = .returned .nilIface ∧ Blk w' b 71 [.int .u8 (bat l 4 : Int)] ∧ w.grownBy w' (some b) := by
  have HB := hide hb
  have HS := hide hs
  have c0 : w.cell? ⟨b, 0, none⟩ = some x0 := hb.cell 0
  have z0 := hb.frozen 0
  have hblt := hb.lt
  have HT := Lib.hid ht
  have H1 := Lib.hid h1
  have hnI : (l.length : Int) = 5 := by omega
  have hcapI : 5 ≤ cap := by omega
  have hcap4 : (4 : Int) ≤ (cap : Int) := by omega
  have hcapn : ¬ cap = 2 := by omega
  clear hb hs ht h1 hcap
  go_enter Tryd.func28, Tryd.ntmps28
  go_wp2
  go_region_held3 (fun w' => w'.cell? ⟨b, 0, none⟩ = some x0) (first | go_keep | exact keep_cell hbx (by go_keep) | exact keep_cell hbA (by go_keep)) (first | (go_at_call 57; refine (type_any _ _).mono ?_; rintro e wA ⟨rfl, hbA⟩) | (go_at_call 56; refine (get16 B0 off _ _ l _ (by omega) (by omega) (by exact HS.out.drew)).mono ?_; rintro e w1 ⟨rfl, hbx⟩))
  have hc1 : wA.cell? ⟨b, 0, none⟩ = some x0 := by assumption
  have HB1 := hide (show Below w.heap.size w wA from ((Below.refl _ _).drew.trans hbx).trans (hbA.mono hbx.size))
  have htb : ((be16 l : Int) != 65281) = false := by rw [HT.out]; rfl
  clear hbx hbA
  go_wp2
  go_region_held3 (fun w' => w'.cell? ⟨b, 0, none⟩ = some x0) (first | go_keep | exact keep_cell hb2 (by go_keep)) (first | (go_at_call 56; refine (get16 B0 (off + 2) _ _ (l.drop 2) _ (by omega) (by simp; omega) (by exact ((cells8_drop l 2 ▸ (HS.out.below HB1.out).drop 2)).drew)).mono ?_; rintro e w2 ⟨rfl, hb2⟩))
  have hc2 : w2.cell? ⟨b, 0, none⟩ = some x0 := by assumption
  have HB2 := hide (show Below w.heap.size w w2 from HB1.out.drew.trans (hb2.mono HB1.out.size))
  have htb2 : ((be16 (l.drop 2) : Int) != 1) = false := by rw [H1.out]; rfl
  have hd : w2.cell? ⟨B0, off + 4, none⟩ = some (.int .u8 (bat l 4 : Int)) := by
    obtain ⟨b', o', e, hc⟩ := (HS.out.below HB2.out) 4 _ (cells8_get l 4 (by omega))
    injection e with e; injection e with e1 e2; subst e1 e2
    exact hc
  have hz2 : w2.frozen? ⟨b, 0, none⟩ = false := (HB2.out.frozen (p := ⟨b, 0, none⟩) hblt).trans z0
  clear hb2 c0 z0 hc1
  go_wp2
  go_ret
  exact ⟨rfl, (HB.out.below HB2.out hblt).set_ 0 _, only_setCell (only_of_below HB2.out _) (.inl rfl) _⟩

set_option maxRecDepth 100000 in
theorem unm_bad (n b B0 off cap : Nat) (x : Addr) (w : World) (hn : n < 5) (hE : w.cell? ⟨2, 0, none⟩ = some (.iface 131 (.pointer (some x)))) :
    Calls Tryd.prog 28 #[.pointer (some ⟨b, 0, none⟩), .slice (some ⟨B0, off, none⟩) n cap] w fun e w' => e = .returned (.iface 131 (.pointer (some x))) ∧ w = w' := by
  have hnI : (n : Int) < 5 := by omega
  go_enter Tryd.func28, Tryd.ntmps28
  go_wp2
  go_ret
  exact ⟨rfl, rfl⟩

/-- impl.Extension as a value: the type and the number; else zero. -/
abbrev extA (t n : Int) : Array Value := #[.int .u16 t, .string ⟨#[]⟩, .slice none 0 0, .slice none 0 0, .slice none 0 0, .bool false, .int .u32 n, .bool false, .slice none 0 0, .slice none 0 0, .slice none 0 0, .slice none 0 0, .slice none 0 0]
theorem ext_one (t n : Int) : (extA t n).all (·.oneCell') = true := by simp [extA, Value.oneCell']
abbrev extV (t n : Int) : Value := .agg (extA t n)
set_option maxRecDepth 100000 in
theorem data_any (b x : Nat) (w : World) (hx : x < 256) (hb : w.cell? ⟨b, 0, none⟩ = some (.int .u8 (x : Int))) :
    Calls Tryd.prog 29 #[.pointer (some ⟨b, 0, none⟩)] w fun e w' => e = .returned (extV 65281 x) ∧ Below w.heap.size w w' := by
  have hblt := World.block_lt_of_cell? w _ hb
  simp only at hblt
  go_enter Tryd.func29, Tryd.ntmps29
  go_wp2
  go_returns
  exact ⟨rfl, ((Below.refl _ _).alloc (Nat.le_refl _) _).alloc (by simp) _⟩

def ReadOk (x : Nat) (w : World) (e : Ending) (w' : World) : Prop := e = .returned (.tuple #[extV 65281 x, .bool true]) ∧ Below w.heap.size w w'
set_option maxRecDepth 100000 in
theorem read_ok (l : List UInt8) (w : World) (hn : l.length = 5) (ht : be16 l = 65281) (h1 : be16 (l.drop 2) = 1) :
    Calls Tryd.prog 14 #[.string (S l)] w (ReadOk (bat l 4) w) := by
  have HN := Lib.hid hn
  have HT := Lib.hid ht
  have H1 := Lib.hid h1
  clear hn ht h1
  go_enter Tryd.func14, Tryd.ntmps14
  go_wp2_with (refine wpList_bytes (o := ⟨some 10, _, _, _, _, _⟩) rfl _ rfl Tryd.underlying9 Tryd.underlying29 Tryd.underlying5 rfl (w.heap.size + 2) (by simp) ?_; intro cap w1 hcap hs1 hb1 hlt1 hx1; have HCAP := hide hcap; have HS1 := hide hs1; have HB1 := hide hb1; have HLT1 := hide hlt1; clear hcap hs1 hb1 hlt1 hx1)
  have hN5 := HN.out
  refine (unm_ok l (w.heap.size + 1) (w.heap.size + 2) 0 cap _ w1 HN.out HCAP.out ((Blk.new_at (w.heap.size + 1) (by simp) 71 [.int .u8 0]).below HB1.out (by omega)) HS1.out HLT1.out (by omega) HT.out H1.out).mono ?_
  rintro e w2 ⟨rfl, hbk2, hg2⟩
  have hr2 : Blk w2 w.heap.size 38 [.int .u16 0, .string ⟨#[]⟩, .slice none 0 0, .slice none 0 0, .slice none 0 0, .bool false, .int .u32 0, .bool false, .slice none 0 0, .slice none 0 0, .slice none 0 0, .slice none 0 0, .slice none 0 0] :=
    (((Blk.new w 38 _).alloc _).below HB1.out (by omega)).grown hg2 (by simp)
  have HB := Lib.hid (show Below w.heap.size w w2 from (((Below.refl _ _).alloc (Nat.le_refl _) _).alloc (by simp) _).trans ((HB1.out.mono (by omega)).grown hg2 (by have := HLT1.out; omega) (fun k e => by injection e with e; omega)))
  have hc2 : w2.cell? ⟨w.heap.size + 1, 0, none⟩ = some (.int .u8 (bat l 4 : Int)) := hbk2.cell 0
  have HR2 := hide hr2
  clear hr2 hbk2 hg2 hN5
  go_wp2_with fail
  refine (data_any (w.heap.size + 1) (bat l 4) w2 (bat_lt _ _) hc2).mono ?_
  rintro e w3 ⟨rfl, hb3⟩
  have hr3 := HR2.out.below hb3 HR2.out.lt
  have HB3 := Lib.hid (HB.out.trans (hb3.mono HB.out.size))
  have HR3 := hide hr3
  clear hr3 hb3 hc2
  go_wp2_with (refine wpList_store_blk HR3.out rfl (.tmp 2) (.tmp 16) rfl (extA 65281 (bat l 4)) rfl rfl rfl (by kernel_rfl) (ext_one _ _) ?_; intro w4 hr4 hg4; have HR4 := hide hr4; have HG4 := hide hg4; clear hr4 hg4)
  refine bodyPost_ret (ret_cell_tmp HR4.out rfl rfl Tryd.underlying38 rfl (by kernel_rfl)) rfl ?_
  exact ⟨rfl, below_only HB3.out HG4.out HB3.out.size (Nat.le_refl _)⟩

def zeroExt : Value := extV 0 0
set_option maxRecDepth 100000 in
theorem read_bad (l : List UInt8) (w : World) (hn : l.length < 5) (hE : ErrAt 131 2 w) :
    Calls Tryd.prog 14 #[.string (S l)] w fun e w' => e = .returned (.tuple #[extV 0 0, .bool false]) ∧ Below w.heap.size w w' := by
  obtain ⟨x, hx⟩ := hE
  have HX := hide hx
  go_enter Tryd.func14, Tryd.ntmps14
  go_wp2_with (refine wpList_bytes (o := ⟨some 10, _, _, _, _, _⟩) rfl _ rfl Tryd.underlying9 Tryd.underlying29 Tryd.underlying5 rfl (w.heap.size + 2) (by simp) ?_; intro cap w1 hcap hs1 hb1 hlt1 hx1; have HCAP := hide hcap; have HS1 := hide hs1; have HB1 := hide hb1; have HLT1 := hide hlt1; clear hcap hs1 hb1 hlt1 hx1)
  have HB := Lib.hid (show Below w.heap.size w w1 from (((Below.refl _ _).alloc (Nat.le_refl _) _).alloc (by simp) _).trans (HB1.out.mono (by omega)))
  have HR2 := Lib.hid (show Blk w1 w.heap.size 38 [.int .u16 0, .string ⟨#[]⟩, .slice none 0 0, .slice none 0 0, .slice none 0 0, .bool false, .int .u32 0, .bool false, .slice none 0 0, .slice none 0 0, .slice none 0 0, .slice none 0 0, .slice none 0 0] from ((Blk.new w 38 _).alloc _).below HB1.out (by omega))
  refine (unm_bad l.length (w.heap.size + 1) (w.heap.size + 2) 0 cap x w1 hn (keep_cell HB.out hx)).mono ?_
  rintro e w2 ⟨rfl, rfl⟩
  clear hx
  go_wp2_with (refine wpList_store_blk HR2.out rfl (.tmp 2) (.tmp 14) rfl (extA 0 0) rfl rfl rfl (by kernel_rfl) (ext_one _ _) ?_; intro w4 hr4 hg4; have HR4 := hide hr4; have HG4 := hide hg4; clear hr4 hg4)
  refine bodyPost_ret (ret_cell_tmp HR4.out rfl rfl Tryd.underlying38 rfl (by kernel_rfl)) rfl ?_
  exact ⟨rfl, below_only HB.out HG4.out HB.out.size (Nat.le_refl _)⟩

theorem red_be (n : Nat) : be16 (extL 65281 [UInt8.ofNat n]) = 65281 := by
  unfold extL
  exact be16_big 65281 (by omega) _
theorem red_be2 (n : Nat) : be16 ((extL 65281 [UInt8.ofNat n]).drop 2) = 1 := by
  have : (extL 65281 [UInt8.ofNat n]).drop 2 = bigL 2 1 ++ [UInt8.ofNat n] := by
    unfold extL vecL
    rw [List.drop_append_of_le_length (by simp [bigL_length])]
    simp [bigL]
  rw [this]
  exact be16_big 1 (by omega) _

set_option maxRecDepth 100000 in
theorem walk (a0 : Int) (w0 : (Lit.int .u8 a0).wf = true) (a1 : Int) (w1 : (Lit.int .i64 a1).wf = true) (w : World)  (hE2 : ErrAt 131 2 w) (hE4 : ErrAt 131 4 w) (hE5 : ErrAt 131 5 w) :
    Calls Tryd.prog 5 #[.int .u8 a0, .int .i64 a1] w fun e w' => e = .returned (.bool true) ∧ Below w.heap.size w w' := by
  have b0 := bounds_u8 w0
  have b1 := bounds_i64 w1
  clear w0 w1
  obtain ⟨n, rfl⟩ := Int.eq_ofNat_of_zero_le b0.1
  have hS := S_size
  have hX := S_extract
  have HE := hide hE2
  clear hE2 hE4 hE5
  have hlen : (extL 65281 [UInt8.ofNat n]).length = 5 := by simp [extL_length]
  go_enter Tryd.func5, Tryd.ntmps5
  have hone : cells8 [UInt8.ofNat n] = [.int .u8 (n : Int)] := by simp [cells8, UInt8.toNat_ofNat']; omega
  have hsl := Lib.hid (show Sl (w.alloc (.cells #[.int .u8 (n : Int)] 5)) (some ⟨w.heap.size, 0, none⟩) (cells8 [UInt8.ofNat n]) by rw [hone]; exact sl_new _ _ _ _)
  clear hone
  have hstr := run_string_of (P := Tryd.prog) _ Tryd.underlying29 Tryd.underlying5 Tryd.underlying9 (c := 1) (n := 1) (l := [UInt8.ofNat n]) rfl hsl.out
  go_wp2_with fail
  refine (framedExt_any 65281 [UInt8.ofNat n] _ (by omega) (by omega) (by simp)).mono ?_
  rintro e w1 ⟨rfl, hb1⟩
  have HB := Lib.hid (((Below.refl _ _).alloc (Nat.le_refl _) _).trans (hb1.mono (by simp)))
  clear hb1
  by_cases h0 : a1 < 1
  · go_wp2
    go_ret
    exact ⟨rfl, HB.out⟩
  by_cases h5 : 5 < a1
  · go_wp2
    go_ret
    exact ⟨rfl, HB.out⟩
  obtain ⟨k, rfl⟩ : ∃ k : Nat, a1 = 5 - (k : Int) := ⟨(5 - a1).toNat, by omega⟩
  have hk : IntKind.i64.wrap (5 - (5 - (k : Int))) = k := by rw [IntKind.wrap_i64]; omega
  go_wp2_with fail
  refine (read_ok (extL 65281 [UInt8.ofNat n]) w1 hlen (red_be n) (red_be2 n)).mono ?_
  rintro e w2 ⟨rfl, hb2⟩
  have HB2 := Lib.hid (HB.out.trans (hb2.mono HB.out.size))
  have HE2 := Lib.hid ((HE.out.below HB.out).below hb2)
  clear hb2
  go_wp2_with fail
  have hk5 : k < 5 := by omega
  refine (read_bad (List.take k (extL 65281 [UInt8.ofNat n])) _ (by rw [List.length_take, hlen]; omega) (HE2.out.below (((Below.refl _ _).alloc (Nat.le_refl _) _)))).mono ?_
  rintro e w3 ⟨rfl, hb3⟩
  have HB3 := Lib.hid ((HB2.out.alloc HB2.out.size _).trans (hb3.mono (by have := HB2.out.size; simp; omega)))
  clear hb3
  go_wp2
  go_ret
  exact ⟨rfl, HB3.out.alloc HB3.out.size _⟩
abbrev laidL : List (String × DataW Unit) := [("pub-convoy/pub/dtls/pkg/protocol/extension.errBufferTooSmall", Rows.laid_pub_convoy_pub_dtls_pkg_protocol_extension_errBufferTooSmall), ("pub-convoy/pub/dtls/pkg/protocol/extension.errInvalidExtensionType", Rows.laid_pub_convoy_pub_dtls_pkg_protocol_extension_errInvalidExtensionType), ("pub-convoy/pub/dtls/pkg/protocol/extension.errLengthMismatch", Rows.laid_pub_convoy_pub_dtls_pkg_protocol_extension_errLengthMismatch)]
theorem door_met (os : Os) (args : Array Value) : laidMetH Tryd.prog laidL ((World.doorLaid Tryd.prog 147 os).forCall (fun _ _ => 0) ⟨#[], args, []⟩).memory :=
  laidMetH_of_parts3 (fuel := 8) (laidMet_of_run' 8 (by kernel_rfl) (by kernel_rfl)) (by kernel_rfl) (by kernel_rfl)
theorem of_laid {W : World} (h : laidMetH Tryd.prog laidL W) : ErrAt 131 2 W ∧ ErrAt 131 4 W ∧ ErrAt 131 5 W := by
  rw [MakeChecks.laidMetH_plain _ _ _ (by kernel_rfl)] at h
  have k0 := errAt_of_laid h (show Tryd.prog.globalNamed "pub-convoy/pub/dtls/pkg/protocol/extension.errBufferTooSmall" = some 2 by kernel_rfl) (by kernel_rfl)
  have h1 := h.tail
  have k1 := errAt_of_laid h1 (show Tryd.prog.globalNamed "pub-convoy/pub/dtls/pkg/protocol/extension.errInvalidExtensionType" = some 4 by kernel_rfl) (by kernel_rfl)
  have h2 := h1.tail
  have k2 := errAt_of_laid h2 (show Tryd.prog.globalNamed "pub-convoy/pub/dtls/pkg/protocol/extension.errLengthMismatch" = some 5 by kernel_rfl) (by kernel_rfl)
  exact ⟨k0, k1, k2⟩
set_option maxRecDepth 100000 in
theorem lifted (os : Os) (started : os.Started) (H : Type) (enc : TypeId × Value → H) :
    ReturnsInHanded {} Tryd.checked os 5 .any (fun w args => (Rows.fnRenegotiationCutSpec.pre enc Tryd.prog Tryd.f5 [] false w args ∧ laidMetH Tryd.prog laidL w) ∧ sizedMet enc Tryd.prog Tryd.f5 (OpenSpec.ofChange Rows.fnRenegotiationCutSpec) false w args)
      (Rows.fnRenegotiationCutSpec.post enc Tryd.prog Tryd.f5 false true false false) := by
  refine returnsInHanded_of_change_and (C := Tryd.checked) (X := fun w _ => laidMetH Tryd.prog laidL w) (fun _ _ _ hh h => h.of_heap hh) own started (by kernel_rfl) Tryd.func5
    (ChangeSpec.witness_shaped (enc := enc) (C := Tryd.checked) (os := os) (X := fun w _ => laidMetH Tryd.prog laidL w) false (World.doorLaid Tryd.prog 147 os) #[.int .u8 0, .int .i64 0] 8 rfl (World.shaped_of_RefB (by kernel_rfl) (by kernel_rfl)) (by kernel_rfl) (by kernel_rfl) (by kernel_rfl) (door_met os _)) ?_
  intro W base args ds gs before hval0 hW _ _ hL _
  obtain ⟨hE2, hE4, hE5⟩ := of_laid hL
  have hval : ∀ (j : Nat) t v, Tryd.f5.params[j]? = some t → args[j]? = some v → Value.okWide Tryd.prog W .any base t v := hval0
  have hW' := hW
  obtain ⟨p, q, hA0, hV, rfl, hfz, hnd⟩ := hW
  have hA : DataW.TrodAll enc Tryd.prog W 0 (fun _ => true) true Tryd.f5.params.toList args.toList ds p := hA0
  rw [Tryd.params5] at hA hval
  obtain ⟨v0, vs0, d0, ds0, p0, q0, hargs, rfl, rfl, h0, r0⟩ := trodAll_cons hA
  obtain ⟨v1, vs1, d1, ds1, p1, q1, rfl, rfl, rfl, h1, r1⟩ := trodAll_cons r0
  obtain ⟨rfl, rfl, rfl⟩ := trodAll_nil r1
  obtain rfl : args = #[v0, v1] := by cases args; simp_all
  obtain ⟨rfl, rfl⟩ := trodVars_none hV
  obtain ⟨a0, rfl, rfl, rfl, w0⟩ := open_int Tryd.underlying5 (hval 0 5 v0 rfl rfl) h0
  obtain ⟨a1, rfl, rfl, rfl, w1⟩ := open_int Tryd.underlying3 (hval 1 3 v1 rfl rfl) h1
  clear hA0 hval0
  refine (walk a0 w0 a1 w1 W hE2 hE4 hE5).mono fun e W' ⟨he, hb⟩ => ?_
  subst he
  exact ⟨_, rfl, law_post laidOut (by kernel_rfl) rfl Tryd.underlying4 rfl hW' rfl rfl rfl hb⟩

theorem over : Rows.fnRenegotiationCutRow.holds Tryd.pinned (OpenSpec.ofChange Rows.fnRenegotiationCutSpec) :=
  OpenClaim.holds_of_wide 5 Tryd.f5 rfl rfl rfl rfl rfl rfl rfl ⟨rfl, rfl, rfl, rfl, rfl⟩ rfl rfl rfl rfl rfl (by kernel_rfl) Tryd.func5 (by kernel_rfl)
    (of_decide_eq_true (by kernel_rfl)) (by unfold Func.isWrapper; first | (rw [if_pos (by decide +kernel)]; kernel_rfl) | (rw [if_neg (by decide +kernel)]; exact ⟨rfl, rfl⟩))
    (fun os started H enc _ => lifted os started H enc)

/-- THE STATEMENT: the tied card. -/
theorem proved : Rows.FnRenegotiationCutCardSaid :=
  Claim7.holds_tied_plain_at .later [] [.sentinel, .sentinel, .sentinel] true (true, "312c705599dff8e1b66b31ff244df6cdee9f20dfac1ec51796f1c787a488a9af") false
    over (fun _ h => by cases h) (by kernel_rfl) (fun _ h => by cases h) fnRenegotiationCut_row_tie rfl ⟨rfl, rfl⟩ (by kernel_rfl) rfl
    (fun f fn hf hfn => by
      obtain rfl : f = 5 := Option.some.inj ((show Tryd.prog.funcNamed "pub-convoy/laws.FnRenegotiationCut" = some 5 by kernel_rfl).symm.trans hf) |>.symm
      obtain rfl : fn = Tryd.f5 := (Option.some.inj (Tryd.func5.symm.trans hfn)).symm
      exact ⟨by kernel_rfl, fun j t ht => by
        rw [Tryd.params5] at ht
        have hm : t ∈ [5, 3] := by simpa using Array.mem_of_getElem? ht
        have hall : ([5, 3].all fun u => !Tryd.prog.wantsStandIn u) = true := by kernel_rfl
        exact (show Tryd.prog.wantsStandIn t = false by simpa using List.all_eq_true.1 hall t hm)⟩)
    (by kernel_rfl)
#print axioms proved

end Go.Proofs.YtlofkkmonkdjjaaDoor.fnRenegotiationCut
