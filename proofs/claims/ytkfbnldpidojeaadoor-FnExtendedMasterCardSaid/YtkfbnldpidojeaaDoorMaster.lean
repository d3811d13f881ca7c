/- FnExtendedMaster: for every number of lacking bytes the law returns true. The three listed sentinels are tied to the program's text. -/
import Derived.Test.YtkfbnldpidojeaaDoorDoor
import Derived.Test.YtkfbnldpidojeaaDoorSame
import Derived.StillTailTactics
import Derived.Deep.RegionHeld3
import Derived.Deep.RegionWith
namespace Go.Proofs.YtkfbnldpidojeaaDoor.fnExtendedMaster
open Go.ChangeShapes Go.WideShapes Go.ChangeAt Go.RowKit Go.Proofs.YtkfbnldpidojeaaDoor
set_option linter.unusedVariables false

theorem type_any (x : Value) (w : World) : Calls Tryd.prog 93 #[.agg #[x]] w fun e w' => e = .returned (.int .u16 23) ∧ w.alloc (.cells #[x] 96) = w' := by
  go_enter Tryd.func93, Tryd.ntmps93
  go_wp2
  go_ret
  exact ⟨rfl, rfl⟩

abbrev extV (t : Int) (f : Bool) : Value := .agg (extRow t ⟨#[]⟩ (.slice none 0 0) (.slice none 0 0) (.slice none 0 0) f 0 false (.slice none 0 0) (.slice none 0 0) (.slice none 0 0) (.slice none 0 0) (.slice none 0 0)).toArray

set_option maxRecDepth 100000 in
theorem marshal (b : Nat) (w : World) (hc : w.cell? ⟨b, 0, none⟩ = some (.bool true)) :
    Calls Tryd.prog 56 #[.pointer (some ⟨b, 0, none⟩)] w fun e w' => ∃ g, e = .returned (.tuple #[.slice (some ⟨g, 0, none⟩) 4 4, .nilIface]) ∧ Sl w' (some ⟨g, 0, none⟩) (cells8 (bigL 2 23 ++ bigL 2 0)) ∧ Below w.heap.size w w' := by
  have hplt : b < w.heap.size := World.block_lt_of_cell? w _ hc
  go_enter Tryd.func56, Tryd.ntmps56
  have hmk := fun W : World => make_bytes_at 4 4 rfl (by decide) W .i64 .i64
  go_wp2
  have hown : (w.alloc (.cells (zeros 4).toArray 5)).ownsRow w.heap.size 5 1 (.slice (some ⟨w.heap.size, 0, none⟩) 4 4) 4 (zeros 4) :=
    (Blk.new w 5 (zeros 4)).to_own (rest := []) (Nat.le_refl _) rfl rfl (by decide)
  have HO := Lib.hid hown
  clear hown
  go_region_held3 (fun w' => w'.cell? ⟨b, 0, none⟩ = some (.bool true)) (first | go_keep | exact (hb1.cell (p := ⟨b, 0, none⟩) hplt).trans (by go_keep)) (first | (go_at_call 93; refine (type_any _ _).mono ?_; rintro e w' ⟨rfl, rfl⟩) | (go_at_call 86; refine (put16_own w.heap.size w.heap.size 0 _ _ 4 4 (zeros 4) _ 23 _ rfl (by decide) (by decide) (by decide) (by exact (HO.out.alloc _).drew) (by decide)).mono ?_; rintro e w1 ⟨rfl, hown1, hg1, hb1⟩))
  have HO1 := Lib.hid hown1
  have HB1 := Lib.hid (show Below w.heap.size w w1 from (((Below.refl _ _).alloc (Nat.le_refl _) _).alloc (by simp) _).drew.trans hb1)
  clear hown1 hg1 hb1 hmk HO hc
  go_wp2
  go_region_held3 (fun _ => True) (trivial) (first | (go_at_call 86; refine (put16_own w.heap.size w.heap.size 2 2 2 4 4 _ _ 0 _ rfl (by omega) (by omega) (by decide) (by exact HO1.out.drew) (by decide)).mono ?_; rintro e w2 ⟨rfl, hown2, hg2, hb2⟩))
  have HO2 := Lib.hid hown2
  have HB2 := Lib.hid (HB1.out.drew.trans hb2)
  clear hown2 hg2 hb2 HO1 HB1
  go_wp2
  go_ret2
  exact ⟨_, rfl, Sl.of_own HO2.out, HB2.out⟩

set_option maxRecDepth 100000 in
theorem make_any (t : Int) (s : ByteArray) (L N P X V G I R : Value) (n : Int) (h : Bool) (w : World) :
    Calls Tryd.prog 55 #[.agg (extRow t s L N P true n h X V G I R).toArray] w fun e w' => e = .returned (.pointer (some ⟨w.heap.size + 1, 0, none⟩)) ∧ Blk w' (w.heap.size + 1) 96 [.bool true] ∧ Below w.heap.size w w' := by
  go_enter Tryd.func55, Tryd.ntmps55
  go_wp2
  go_ret
  exact ⟨rfl, Blk.new_at _ (by simp) _ _, ((Below.refl _ _).alloc (Nat.le_refl _) _).alloc (by simp) _⟩

/-- The extension's bytes. -/
def bytes : List UInt8 := bigL 2 23 ++ bigL 2 0
set_option maxRecDepth 100000 in
theorem write_ok (t : Int) (s : ByteArray) (L N P X V G I R : Value) (n : Int) (h : Bool) (w : World) :
    Calls Tryd.prog 26 #[.agg (extRow t s L N P true n h X V G I R).toArray] w fun e w' => e = .returned (.tuple #[.string (S bytes), .bool true]) ∧ Below w.heap.size w w' := by
  go_enter Tryd.func26, Tryd.ntmps26
  go_wp2_with fail
  refine (make_any t s L N P X V G I R n h _).mono ?_
  rintro e w1 ⟨rfl, hk1, hb1⟩
  have hc1 := hk1.cell 0
  have HB1 := Lib.hid hb1
  clear hk1 hb1
  go_wp2_with fail
  refine (marshal _ w1 (by simpa using hc1)).mono ?_
  rintro e w2 ⟨g, rfl, hs2, hb2⟩
  have HS2 := Lib.hid hs2
  have HB2 := Lib.hid (show Below w.heap.size w w2 from (((Below.refl _ _).alloc (Nat.le_refl _) _).trans (HB1.out.mono (by simp))).trans (hb2.mono (by have := HB1.out.size; simp at this; omega)))
  clear hs2 hb2 HB1 hc1
  go_wp2_with fail
  refine (text_ok (some ⟨g, 0, none⟩) 4 4 bytes w2 rfl HS2.out).mono ?_
  rintro e w3 ⟨rfl, rfl⟩
  go_wp2
  go_ret2
  exact ⟨rfl, HB2.out⟩

set_option maxRecDepth 100000 in
theorem data_any (b : Nat) (f : Bool) (w : World) (hb : w.cell? ⟨b, 0, none⟩ = some (.bool f)) :
    Calls Tryd.prog 58 #[.pointer (some ⟨b, 0, none⟩)] w fun e w' => e = .returned (extV 23 f) ∧ Below w.heap.size w w' := by
  have hblt := World.block_lt_of_cell? w _ hb
  simp only at hblt
  go_enter Tryd.func58, Tryd.ntmps58
  go_wp2
  go_returns
  exact ⟨rfl, ((Below.refl _ _).alloc (Nat.le_refl _) _).alloc (by simp) _⟩

set_option maxRecDepth 100000 in
theorem unm_bad (n b B0 off cap : Nat) (x : Addr) (w : World) (hn : n < 4) (hE : w.cell? ⟨10, 0, none⟩ = some (.iface 192 (.pointer (some x)))) :
    Calls Tryd.prog 57 #[.pointer (some ⟨b, 0, none⟩), .slice (some ⟨B0, off, none⟩) n cap] w fun e w' => e = .returned (.iface 192 (.pointer (some x))) ∧ w = w' := by
  have hnI : (n : Int) < 4 := by omega
  go_enter Tryd.func57, Tryd.ntmps57
  go_wp2
  go_ret
  exact ⟨rfl, rfl⟩

set_option maxRecDepth 100000 in
theorem unm_ok (b B0 cap : Nat) (x0 : Value) (w : World) (hcap : 4 ≤ cap) (hb : Blk w b 96 [x0]) (hs : Sl w (some ⟨B0, 0, none⟩) (cells8 bytes)) (hne : B0 ≠ b) :
    Calls Tryd.prog 57 #[.pointer (some ⟨b, 0, none⟩), .slice (some ⟨B0, 0, none⟩) 4 cap] w fun e w' => e = .returned .nilIface ∧ Blk w' b 96 [.bool true] ∧ w.grownBy w' (some b) := by
  have HB := hide hb
  have HS := hide hs
  have c0 : w.cell? ⟨b, 0, none⟩ = some x0 := hb.cell 0
  have z0 := hb.frozen 0
  have hblt := hb.lt
  have hcap4 : (4 : Int) ≤ (cap : Int) := by omega
  have d2 : w.cell? ⟨B0, 2, none⟩ = some (.int .u8 0) := by
    obtain ⟨b', o', e, hc⟩ := hs 2 _ (cells8_get bytes 2 (by decide))
    injection e with e; injection e with e1 e2; subst e1 e2
    exact hc
  have d3 : w.cell? ⟨B0, 3, none⟩ = some (.int .u8 0) := by
    obtain ⟨b', o', e, hc⟩ := hs 3 _ (cells8_get bytes 3 (by decide))
    injection e with e; injection e with e1 e2; subst e1 e2
    exact hc
  have hbe : be16 bytes = 23 := be16_big 23 (by omega) _
  clear hb hs
  go_enter Tryd.func57, Tryd.ntmps57
  go_wp2
  have hbeb : ((be16 bytes : Int) != 23) = false := by rw [hbe]; rfl
  go_region_held3 (fun w' => w'.cell? ⟨b, 0, none⟩ = some x0) (first | go_keep | exact keep_cell hbx (by go_keep)) (first | (go_at_call 93; refine (type_any _ _).mono ?_; rintro e wA ⟨rfl, rfl⟩) | (go_at_call 87; refine (get16 B0 0 _ _ bytes _ (by omega) (by decide) (by exact HS.out.drew)).mono ?_; rintro e w1 ⟨rfl, hbx⟩))
  have hc1 : (w1.alloc (.cells #[x0] 96)).cell? ⟨b, 0, none⟩ = some x0 := by assumption
  have HB1 := hide (show Below w.heap.size w (w1.alloc (.cells #[x0] 96)) from ((Below.refl _ _).drew.trans hbx).alloc hbx.size _)
  have hz1 := (HB1.out.frozen (p := ⟨b, 0, none⟩) hblt).trans z0
  clear hbx c0 z0
  go_wp2
  go_ret
  exact ⟨rfl, (HB.out.below HB1.out hblt).set_ 0 _, only_setCell (only_of_below HB1.out _) (.inl rfl) _⟩

abbrev extA (t : Int) (f : Bool) : Array Value := #[.int .u16 t, .string ⟨#[]⟩, .slice none 0 0, .slice none 0 0, .slice none 0 0, .bool f, .int .u32 0, .bool false, .slice none 0 0, .slice none 0 0, .slice none 0 0, .slice none 0 0, .slice none 0 0]
theorem ext_one (t : Int) (f : Bool) : (extA t f).all (·.oneCell') = true := by simp [extA, Value.oneCell']
abbrev zeroRow : List Value := [.int .u16 0, .string ⟨#[]⟩, .slice none 0 0, .slice none 0 0, .slice none 0 0, .bool false, .int .u32 0, .bool false, .slice none 0 0, .slice none 0 0, .slice none 0 0, .slice none 0 0, .slice none 0 0]
set_option maxRecDepth 100000 in
theorem read_ok (w : World) :
    Calls Tryd.prog 27 #[.string (S bytes)] w fun e w' => e = .returned (.tuple #[extV 23 true, .bool true]) ∧ Below w.heap.size w w' := by
  go_enter Tryd.func27, Tryd.ntmps27
  go_wp2_with (refine wpList_bytes (o := ⟨some 10, _, _, _, _, _⟩) rfl _ rfl Tryd.underlying9 Tryd.underlying26 Tryd.underlying5 rfl (w.heap.size + 2) (by simp) ?_; intro cap w1 hcap hs1 hb1 hlt1 hx1; have HCAP := hide hcap; have HS1 := hide hs1; have HB1 := hide hb1; have HLT1 := hide hlt1; clear hcap hs1 hb1 hlt1 hx1)
  refine (unm_ok (w.heap.size + 1) (w.heap.size + 2) cap _ w1 HCAP.out ((Blk.new_at (w.heap.size + 1) (by simp) 96 [.bool false]).below HB1.out (by omega)) HS1.out (by omega)).mono ?_
  rintro e w2 ⟨rfl, hbk2, hg2⟩
  have hr2 : Blk w2 w.heap.size 48 zeroRow :=
    (((Blk.new w 48 _).alloc _).below HB1.out (by omega)).grown hg2 (by simp)
  have HB := Lib.hid (show Below w.heap.size w w2 from (((Below.refl _ _).alloc (Nat.le_refl _) _).alloc (by simp) _).trans ((HB1.out.mono (by omega)).grown hg2 (by have := HLT1.out; omega) (fun k e => by injection e with e; omega)))
  have hc2 : w2.cell? ⟨w.heap.size + 1, 0, none⟩ = some (.bool true) := hbk2.cell 0
  have HR2 := hide hr2
  clear hr2 hbk2 hg2
  go_wp2_with fail
  refine (data_any (w.heap.size + 1) true w2 hc2).mono ?_
  rintro e w3 ⟨rfl, hb3⟩
  have hr3 := HR2.out.below hb3 HR2.out.lt
  have HB3 := Lib.hid (HB.out.trans (hb3.mono HB.out.size))
  have HR3 := hide hr3
  clear hr3 hb3 hc2
  go_wp2_with (refine wpList_store_blk HR3.out rfl (.tmp 2) (.tmp 16) rfl (extA 23 true) rfl rfl rfl (by kernel_rfl) (ext_one _ _) ?_; intro w4 hr4 hg4; have HR4 := hide hr4; have HG4 := hide hg4; clear hr4 hg4)
  refine bodyPost_ret (ret_cell_tmp HR4.out rfl rfl Tryd.underlying48 rfl (by kernel_rfl)) rfl ?_
  exact ⟨rfl, below_only HB3.out HG4.out HB3.out.size (Nat.le_refl _)⟩

set_option maxRecDepth 100000 in
theorem read_bad (l : List UInt8) (w : World) (hn : l.length < 4) (hE : ErrAt 192 10 w) :
    Calls Tryd.prog 27 #[.string (S l)] w fun e w' => e = .returned (.tuple #[extV 0 false, .bool false]) ∧ Below w.heap.size w w' := by
  obtain ⟨x, hx⟩ := hE
  have HX := hide hx
  go_enter Tryd.func27, Tryd.ntmps27
  go_wp2_with (refine wpList_bytes (o := ⟨some 10, _, _, _, _, _⟩) rfl _ rfl Tryd.underlying9 Tryd.underlying26 Tryd.underlying5 rfl (w.heap.size + 2) (by simp) ?_; intro cap w1 hcap hs1 hb1 hlt1 hx1; have HCAP := hide hcap; have HS1 := hide hs1; have HB1 := hide hb1; have HLT1 := hide hlt1; clear hcap hs1 hb1 hlt1 hx1)
  have HB := Lib.hid (show Below w.heap.size w w1 from (((Below.refl _ _).alloc (Nat.le_refl _) _).alloc (by simp) _).trans (HB1.out.mono (by omega)))
  have HR2 := Lib.hid (show Blk w1 w.heap.size 48 zeroRow from ((Blk.new w 48 _).alloc _).below HB1.out (by omega))
  refine (unm_bad l.length (w.heap.size + 1) (w.heap.size + 2) 0 cap x w1 hn (keep_cell HB.out hx)).mono ?_
  rintro e w2 ⟨rfl, rfl⟩
  clear hx
  go_wp2_with (refine wpList_store_blk HR2.out rfl (.tmp 2) (.tmp 14) rfl (extA 0 false) rfl rfl rfl (by kernel_rfl) (ext_one _ _) ?_; intro w4 hr4 hg4; have HR4 := hide hr4; have HG4 := hide hg4; clear hr4 hg4)
  refine bodyPost_ret (ret_cell_tmp HR4.out rfl rfl Tryd.underlying48 rfl (by kernel_rfl)) rfl ?_
  exact ⟨rfl, below_only HB.out HG4.out HB.out.size (Nat.le_refl _)⟩

set_option maxRecDepth 100000 in
theorem walk (a0 : Int) (w0 : (Lit.int .i64 a0).wf = true) (w : World)  (hE10 : ErrAt 192 10 w) (hE12 : ErrAt 192 12 w) (hE11 : ErrAt 192 11 w) :
    Calls Tryd.prog 7 #[.int .i64 a0] w fun e w' => e = .returned (.bool true) ∧ Below w.heap.size w w' := by
  have b0 := bounds_i64 w0
  have hS := S_size
  have hX := S_extract
  have HE := hide hE10
  clear w0 hE10 hE12 hE11
  go_enter Tryd.func7, Tryd.ntmps7
  go_wp2_with fail
  refine (write_ok 23 _ _ _ _ _ _ _ _ _ 0 false _).mono ?_
  rintro e w1 ⟨rfl, hb1⟩
  have HB1 := Lib.hid hb1
  clear hb1
  go_wp2_with fail
  refine (framedExt_any 23 [] _ (by omega) (by omega) (by simp)).mono ?_
  rintro e w2 ⟨rfl, hb2⟩
  have HB2 := Lib.hid (HB1.out.trans (hb2.mono HB1.out.size))
  clear hb2 HB1
  have heq : extL (23 : Int).toNat [] = bytes := by decide
  rw [heq]
  clear heq
  go_wp2_with fail
  refine (read_ok w2).mono ?_
  rintro e w3 ⟨rfl, hb3⟩
  have HB3 := Lib.hid (HB2.out.trans (hb3.mono HB2.out.size))
  clear hb3 HB2
  go_wp2_with fail
  refine (sameExt_of 23 true false 0 ⟨#[]⟩ _ _ _ _ _ _ _ _ _ _ _ _ _ _ _ _ _ (same_nil_str none none 0 0 _ _) (same_nil_u16 none none 0 0 _ _) (same_nil_pair none none 0 0 _ _) (same_nil_share none none 0 0 _ _) (same_nil_share none none 0 0 _ _) (same_nil_u16 none none 0 0 _ _) (same_nil_ident none none 0 0 _ _) (same_nil_filter none none 0 0 _ _)).mono ?_
  rintro e w4 ⟨rfl, hb4⟩
  have HB4 := Lib.hid ((HB3.out.alloc HB3.out.size _).trans (hb4.mono (by have := HB3.out.size; simp; omega)))
  have HE4 := Lib.hid (HE.out.below (HB4.out))
  clear hb4 HB3
  have hlen : bytes.length = 4 := by decide
  have h4a : ((4 : Nat) : Int) = 4 := rfl
  by_cases h0 : a0 < 1
  · go_wp2
    go_ret
    exact ⟨rfl, HB4.out⟩
  by_cases h5 : 4 < a0
  · go_wp2
    go_ret
    exact ⟨rfl, HB4.out⟩
  obtain ⟨k, rfl⟩ : ∃ k : Nat, a0 = 4 - (k : Int) := ⟨(4 - a0).toNat, by omega⟩
  have hk : IntKind.i64.wrap (4 - (4 - (k : Int))) = k := by rw [IntKind.wrap_i64]; omega
  go_wp2_with fail
  have hk5 : k < 4 := by omega
  refine (read_bad (List.take k bytes) _ (by rw [List.length_take, hlen]; omega) HE4.out).mono ?_
  rintro e w5 ⟨rfl, hb5⟩
  have HB5 := Lib.hid (HB4.out.trans (hb5.mono HB4.out.size))
  clear hb5
  go_wp2
  go_ret
  exact ⟨rfl, HB5.out⟩
abbrev laidL : List (String × DataW Unit) := [("pub-convoy/pub/dtls/pkg/protocol/extension.errBufferTooSmall", Rows.laid_pub_convoy_pub_dtls_pkg_protocol_extension_errBufferTooSmall), ("pub-convoy/pub/dtls/pkg/protocol/extension.errInvalidExtensionType", Rows.laid_pub_convoy_pub_dtls_pkg_protocol_extension_errInvalidExtensionType), ("pub-convoy/pub/dtls/pkg/protocol/extension.errLengthMismatch", Rows.laid_pub_convoy_pub_dtls_pkg_protocol_extension_errLengthMismatch)]
theorem door_met (os : Os) (args : Array Value) : laidMetH Tryd.prog laidL ((World.doorLaid Tryd.prog 342 os).forCall (fun _ _ => 0) ⟨#[], args, []⟩).memory :=
  laidMetH_of_parts3 (fuel := 8) (laidMet_of_run' 8 (by kernel_rfl) (by kernel_rfl)) (by kernel_rfl) (by kernel_rfl)
theorem of_laid {W : World} (h : laidMetH Tryd.prog laidL W) : ErrAt 192 10 W ∧ ErrAt 192 12 W ∧ ErrAt 192 11 W := by
  rw [MakeChecks.laidMetH_plain _ _ _ (by kernel_rfl)] at h
  have k0 := errAt_of_laid h (show Tryd.prog.globalNamed "pub-convoy/pub/dtls/pkg/protocol/extension.errBufferTooSmall" = some 10 by kernel_rfl) (by kernel_rfl)
  have h1 := h.tail
  have k1 := errAt_of_laid h1 (show Tryd.prog.globalNamed "pub-convoy/pub/dtls/pkg/protocol/extension.errInvalidExtensionType" = some 12 by kernel_rfl) (by kernel_rfl)
  have h2 := h1.tail
  have k2 := errAt_of_laid h2 (show Tryd.prog.globalNamed "pub-convoy/pub/dtls/pkg/protocol/extension.errLengthMismatch" = some 11 by kernel_rfl) (by kernel_rfl)
  exact ⟨k0, k1, k2⟩
set_option maxRecDepth 100000 in
theorem lifted (os : Os) (started : os.Started) (H : Type) (enc : TypeId × Value → H) :
    ReturnsInHanded {} Tryd.checked os 7 .any (fun w args => (Rows.fnExtendedMasterSpec.pre enc Tryd.prog Tryd.f7 [] false w args ∧ laidMetH Tryd.prog laidL w) ∧ sizedMet enc Tryd.prog Tryd.f7 (OpenSpec.ofChange Rows.fnExtendedMasterSpec) false w args)
      (Rows.fnExtendedMasterSpec.post enc Tryd.prog Tryd.f7 false true false false) := by
  refine returnsInHanded_of_change_and (C := Tryd.checked) (X := fun w _ => laidMetH Tryd.prog laidL w) (fun _ _ _ hh h => h.of_heap hh) own started (by kernel_rfl) Tryd.func7
    (ChangeSpec.witness_shaped (enc := enc) (C := Tryd.checked) (os := os) (X := fun w _ => laidMetH Tryd.prog laidL w) false (World.doorLaid Tryd.prog 342 os) #[.int .i64 0] 8 rfl (World.shaped_of_RefB (by kernel_rfl) (by kernel_rfl)) (by kernel_rfl) (by kernel_rfl) (by kernel_rfl) (door_met os _)) ?_
  intro W base args ds gs before hval0 hW _ _ hL _
  obtain ⟨hE10, hE12, hE11⟩ := of_laid hL
  have hval : ∀ (j : Nat) t v, Tryd.f7.params[j]? = some t → args[j]? = some v → Value.okWide Tryd.prog W .any base t v := hval0
  have hW' := hW
  obtain ⟨p, q, hA0, hV, rfl, hfz, hnd⟩ := hW
  have hA : DataW.TrodAll enc Tryd.prog W 0 (fun _ => true) true Tryd.f7.params.toList args.toList ds p := hA0
  rw [Tryd.params7] at hA hval
  obtain ⟨v0, vs0, d0, ds0, p0, q0, hargs, rfl, rfl, h0, r0⟩ := trodAll_cons hA
  obtain ⟨rfl, rfl, rfl⟩ := trodAll_nil r0
  obtain rfl : args = #[v0] := by cases args; simp_all
  obtain ⟨rfl, rfl⟩ := trodVars_none hV
  obtain ⟨a0, rfl, rfl, rfl, w0⟩ := open_int Tryd.underlying3 (hval 0 3 v0 rfl rfl) h0
  clear hA0 hval0
  refine (walk a0 w0 W hE10 hE12 hE11).mono fun e W' ⟨he, hb⟩ => ?_
  subst he
  exact ⟨_, rfl, law_post laidOut (by kernel_rfl) rfl Tryd.underlying4 rfl hW' rfl rfl rfl hb⟩

theorem over : Rows.fnExtendedMasterRow.holds Tryd.pinned (OpenSpec.ofChange Rows.fnExtendedMasterSpec) :=
  OpenClaim.holds_of_wide 7 Tryd.f7 rfl rfl rfl rfl rfl rfl rfl ⟨rfl, rfl, rfl, rfl, rfl⟩ rfl rfl rfl rfl rfl (by kernel_rfl) Tryd.func7 (by kernel_rfl)
    (of_decide_eq_true (by kernel_rfl)) (by unfold Func.isWrapper; first | (rw [if_pos (by decide +kernel)]; kernel_rfl) | (rw [if_neg (by decide +kernel)]; exact ⟨rfl, rfl⟩))
    (fun os started H enc _ => lifted os started H enc)

/-- THE STATEMENT: the tied card. -/
theorem proved : Rows.FnExtendedMasterCardSaid :=
  Claim7.holds_tied_plain_at .later [] [.sentinel, .sentinel, .sentinel] true (true, "dbcc22dd92c0e3c42d89f92366a0b0c5b44486c43064837111ff93de06a332f3") false
    over (fun _ h => by cases h) (by kernel_rfl) (fun _ h => by cases h) fnExtendedMaster_row_tie rfl ⟨rfl, rfl⟩ (by kernel_rfl) rfl
    (fun f fn hf hfn => by
      obtain rfl : f = 7 := Option.some.inj ((show Tryd.prog.funcNamed "pub-convoy/laws.FnExtendedMaster" = some 7 by kernel_rfl).symm.trans hf) |>.symm
      obtain rfl : fn = Tryd.f7 := (Option.some.inj (Tryd.func7.symm.trans hfn)).symm
      exact ⟨by kernel_rfl, fun j t ht => by
        rw [Tryd.params7] at ht
        have hm : t ∈ [3] := by simpa using Array.mem_of_getElem? ht
        have hall : ([3].all fun u => !Tryd.prog.wantsStandIn u) = true := by kernel_rfl
        exact (show Tryd.prog.wantsStandIn t = false by simpa using List.all_eq_true.1 hall t hm)⟩)
    (by kernel_rfl)
#print axioms proved

end Go.Proofs.YtkfbnldpidojeaaDoor.fnExtendedMaster
