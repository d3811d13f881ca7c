/- FnServerKeyPskBack: for every hint the law returns true. -/
import Derived.Test.YtpmlcllpigcccaaDoorDoor
import Derived.Test.YtpmlcllpigcccaaDoorSameMsg
import Derived.Test.YtpmlcllpigcccaaDoorSkpA
import Derived.StillTailTactics
import Derived.Deep.RegionHeld3
import Derived.Deep.RegionWith
import Derived.RegionTactic
import Derived.BigRegion
import Derived.BigFrame
import Derived.Great.Ranges
import Derived.Great.BuildSlice
namespace Go.Proofs.YtpmlcllpigcccaaDoor.fnServerKeyPskBack
open Go.ChangeShapes Go.WideShapes Go.ChangeAt Go.RowKit Go.Proofs.YtpmlcllpigcccaaDoor
open Go.ChangeMaps (open_string shut_string)
set_option linter.unusedVariables false

section
variable {P : Program} {w : World} {ops : Array Oper} {rest : List Oper} {o : Oper} {a : Act} {Q : Exit → Act → World → Prop}
theorem wpList_build_want (hw : Region.wanted o (yielded ops a.tmps) = true) (t : TypeId) (parts : Array (Nat × Operand)) (ho : o.op = .build t parts) (d : Option Tmp) (hd : o.dst = d) (cells : Array Value) (hf : P.built t (parts.map fun (i, x) => (i, a.eval x)).toList = some cells)
    (h : wpList P ops Q rest (a.put d (.agg cells)) w) : wpList P ops Q (o :: rest) a w := by
  subst hd
  exact Go.BigFrame.wpList_want hw fun K hK => wp_build t parts ho (by rw [hf]; rfl) (by rw [hf]; exact hK _ _ h)
theorem wpList_load_want (hw : Region.wanted o (yielded ops a.tmps) = true) (ty : TypeId) (x : Operand) (ho : o.op = .load ty x) (d' : Option Tmp) (hd' : o.dst = d') (b f : Nat) (hx : a.eval x = .pointer (some ⟨b, f, none⟩)) (cs : List Value) (d : TypeDesc) (hc : w.rangeAt b f cs)
    (hu : P.underlying ty = some d) (hr : d.isRow = true) (hi : (P.info? ty).map (·.size) = some cs.length) (h : wpList P ops Q rest (a.put d' (.agg cs.toArray)) w) : wpList P ops Q (o :: rest) a w := by
  subst hd'
  exact Go.BigFrame.wpList_want hw fun K hK => wp_load_mid ty x ho b f hx cs d hc hu hr hi (hK _ _ h)
end
set_option maxRecDepth 3000000 in
set_option maxHeartbeats 8000000 in
theorem walk (a0 : ByteArray) (w0 : a0.size ≤ maxLen) (w : World) (hE4 : ErrAt 223 4 w) (hE3 : ErrAt 223 3 w) (hE0 : ErrAt 223 0 w) (hE5 : ErrAt 223 5 w) (hE2 : ErrAt 223 2 w) (hE9 : ErrAt 223 9 w) (hE10 : ErrAt 223 10 w) (hE8 : ErrAt 223 8 w) :
    Calls Tryd.prog 11 #[.string a0] w fun e w' => e = .returned (.bool true) ∧ Below w.heap.size w w' := by
  obtain ⟨l, rfl⟩ := exS a0
  have hS := S_size
  clear w0 hE4 hE3 hE0 hE5 hE2 hE9 hE10 hE8
  by_cases hz : 2147483647 < (l.length : Int)
  · go_enter Tryd.func11, Tryd.ntmps11
    go_wp2
    go_ret
    exact ⟨rfl, Below.refl _ _⟩
  by_cases h0 : (0 : Int) < (l.length : Int)
  · by_cases h1 : (l.length : Int) < 60000
    · have hd : decide ((l.length : Int) < 60000) = true := by simp only [decide_eq_true_eq]; omega
      have hl6 : l.length < 60000 := by omega
      have hl0 : 0 < l.length := by omega
      have HL := Lib.hid hl6
      clear h1 hl6
      go_enter Tryd.func11, Tryd.ntmps11
      go_wp2_with fail
      refine (vec_any l 2 w (by omega) (by omega) (by omega)).mono ?_
      rintro e w1 ⟨rfl, hb1⟩
      have HB1 := Lib.hid hb1
      clear hb1
      go_wp2_with fail
      refine (read_ok l w1 hl0 HL.out).mono ?_
      rintro e w2 ⟨rfl, hb2⟩
      have HB2 := Lib.hid (HB1.out.trans (hb2.mono HB1.out.size))
      clear hb2
      go_wp2_with (first | (refine wpList_store_blk (Blk.new_at w2.heap.size rfl 37 zeroMsg) rfl (.tmp 3) (.tmp 21) rfl (skMsg l) rfl rfl rfl (by kernel_rfl) (msg_one l) ?_; intro w3 hr3 hg3; have HR3 := Lib.hid hr3; have HB3 := Lib.hid (below_only (HB2.out.alloc HB2.out.size _) hg3 (by have := HB2.out.size; simp; omega) HB2.out.size); clear hr3 hg3) | (refine wpList_load_want (by rfl) 37 (.tmp 3) rfl (some 25) rfl _ _ rfl (skMsg l).toList _ HR3.out.rangeAt Tryd.underlying37 rfl (by kernel_rfl) ?_) | (refine wpList_build_want (by rfl) 37 _ rfl (some 27) rfl (skMsg l) (by kernel_rfl) ?_))
      refine (sameMessage_of 12 false 0 0 0 ⟨#[]⟩ ⟨#[]⟩ ⟨#[]⟩ 0 0 ⟨#[]⟩ (S l) ⟨#[]⟩ 2 0 0 ⟨#[]⟩ ⟨#[]⟩ _ _ _ _ _ _ _ _ _ _ _ (same_nil_u16 none none 0 0 _ _) (same_nil_u8 none none 0 0 _ _) (same_nil_str none none 0 0 _ _) (same_nil_u8 none none 0 0 _ _) (same_nil_pair none none 0 0 _ _)).mono ?_
      rintro e w4 ⟨rfl, hb4⟩
      have HB4 := Lib.hid (HB3.out.trans (hb4.mono HB3.out.size))
      clear hb4
      go_wp2
      go_ret
      exact ⟨rfl, HB4.out⟩
    · have hd : decide ((l.length : Int) < 60000) = false := by simp only [decide_eq_false_iff_not]; omega
      clear h1
      go_enter Tryd.func11, Tryd.ntmps11
      go_wp2
      go_ret
      exact ⟨rfl, Below.refl _ _⟩
  · go_enter Tryd.func11, Tryd.ntmps11
    go_wp2
    go_ret
    exact ⟨rfl, Below.refl _ _⟩
abbrev laidL : List (String × DataW Unit) := [("pub-convoy/pub/dtls/pkg/crypto/signaturehash.errInvalidSignatureAlgorithm", Rows.laid_pub_convoy_pub_dtls_pkg_crypto_signaturehash_errInvalidSignatureAlgorithm), ("pub-convoy/pub/dtls/pkg/crypto/signaturehash.errInvalidHashAlgorithm", Rows.laid_pub_convoy_pub_dtls_pkg_crypto_signaturehash_errInvalidHashAlgorithm), ("pub-convoy/pub/dtls/pkg/protocol/handshake.errBufferTooSmall", Rows.laid_pub_convoy_pub_dtls_pkg_protocol_handshake_errBufferTooSmall), ("pub-convoy/pub/dtls/pkg/protocol/handshake.errLengthMismatch", Rows.laid_pub_convoy_pub_dtls_pkg_protocol_handshake_errLengthMismatch), ("pub-convoy/pub/dtls/pkg/protocol/handshake.errInvalidSignHashAlgorithm", Rows.laid_pub_convoy_pub_dtls_pkg_protocol_handshake_errInvalidSignHashAlgorithm), ("pub-convoy/pub/dtls/pkg/protocol/handshake.errInvalidEllipticCurveType", Rows.laid_pub_convoy_pub_dtls_pkg_protocol_handshake_errInvalidEllipticCurveType), ("pub-convoy/pub/dtls/pkg/protocol/handshake.errInvalidNamedCurve", Rows.laid_pub_convoy_pub_dtls_pkg_protocol_handshake_errInvalidNamedCurve), ("pub-convoy/pub/dtls/pkg/protocol/handshake.errCipherSuiteUnset", Rows.laid_pub_convoy_pub_dtls_pkg_protocol_handshake_errCipherSuiteUnset)]
theorem door_met (os : Os) (args : Array Value) : laidMetH Tryd.prog laidL ((World.doorLaid Tryd.prog 313 os).forCall (fun _ _ => 0) ⟨#[], args, []⟩).memory :=
  laidMetH_of_parts3 (fuel := 8) (laidMet_of_run' 8 (by kernel_rfl) (by kernel_rfl)) (by kernel_rfl) (by kernel_rfl)
theorem of_laid {W : World} (h : laidMetH Tryd.prog laidL W) : ErrAt 223 4 W ∧ ErrAt 223 3 W ∧ ErrAt 223 0 W ∧ ErrAt 223 5 W ∧ ErrAt 223 2 W ∧ ErrAt 223 9 W ∧ ErrAt 223 10 W ∧ ErrAt 223 8 W := by
  rw [MakeChecks.laidMetH_plain _ _ _ (by kernel_rfl)] at h
  have k0 := errAt_of_laid h (show Tryd.prog.globalNamed "pub-convoy/pub/dtls/pkg/crypto/signaturehash.errInvalidSignatureAlgorithm" = some 4 by kernel_rfl) (by kernel_rfl)
  have h1 := h.tail
  have k1 := errAt_of_laid h1 (show Tryd.prog.globalNamed "pub-convoy/pub/dtls/pkg/crypto/signaturehash.errInvalidHashAlgorithm" = some 3 by kernel_rfl) (by kernel_rfl)
  have h2 := h1.tail
  have k2 := errAt_of_laid h2 (show Tryd.prog.globalNamed "pub-convoy/pub/dtls/pkg/protocol/handshake.errBufferTooSmall" = some 0 by kernel_rfl) (by kernel_rfl)
  have h3 := h2.tail
  have k3 := errAt_of_laid h3 (show Tryd.prog.globalNamed "pub-convoy/pub/dtls/pkg/protocol/handshake.errLengthMismatch" = some 5 by kernel_rfl) (by kernel_rfl)
  have h4 := h3.tail
  have k4 := errAt_of_laid h4 (show Tryd.prog.globalNamed "pub-convoy/pub/dtls/pkg/protocol/handshake.errInvalidSignHashAlgorithm" = some 2 by kernel_rfl) (by kernel_rfl)
  have h5 := h4.tail
  have k5 := errAt_of_laid h5 (show Tryd.prog.globalNamed "pub-convoy/pub/dtls/pkg/protocol/handshake.errInvalidEllipticCurveType" = some 9 by kernel_rfl) (by kernel_rfl)
  have h6 := h5.tail
  have k6 := errAt_of_laid h6 (show Tryd.prog.globalNamed "pub-convoy/pub/dtls/pkg/protocol/handshake.errInvalidNamedCurve" = some 10 by kernel_rfl) (by kernel_rfl)
  have h7 := h6.tail
  have k7 := errAt_of_laid h7 (show Tryd.prog.globalNamed "pub-convoy/pub/dtls/pkg/protocol/handshake.errCipherSuiteUnset" = some 8 by kernel_rfl) (by kernel_rfl)
  exact ⟨k0, k1, k2, k3, k4, k5, k6, k7⟩
set_option maxRecDepth 100000 in
theorem lifted (os : Os) (started : os.Started) (H : Type) (enc : TypeId × Value → H) :
    ReturnsInHanded {} Tryd.checked os 11 .any (fun w args => (Rows.fnServerKeyPskBackSpec.pre enc Tryd.prog Tryd.f11 [] false w args ∧ laidMetH Tryd.prog laidL w) ∧ sizedMet enc Tryd.prog Tryd.f11 (OpenSpec.ofChange Rows.fnServerKeyPskBackSpec) false w args)
      (Rows.fnServerKeyPskBackSpec.post enc Tryd.prog Tryd.f11 false true false false) := by
  refine returnsInHanded_of_change_and (C := Tryd.checked) (X := fun w _ => laidMetH Tryd.prog laidL w) (fun _ _ _ hh h => h.of_heap hh) own started (by kernel_rfl) Tryd.func11
    (ChangeSpec.witness_shaped (enc := enc) (C := Tryd.checked) (os := os) (X := fun w _ => laidMetH Tryd.prog laidL w) false (World.doorLaid Tryd.prog 313 os) #[.string ByteArray.empty] 8 rfl (World.shaped_of_RefB (by kernel_rfl) (by kernel_rfl)) (by kernel_rfl) (by kernel_rfl) (by kernel_rfl) (door_met os _)) ?_
  intro W base args ds gs before hval0 hW _ _ hL _
  obtain ⟨hE4, hE3, hE0, hE5, hE2, hE9, hE10, hE8⟩ := of_laid hL
  have hval : ∀ (j : Nat) t v, Tryd.f11.params[j]? = some t → args[j]? = some v → Value.okWide Tryd.prog W .any base t v := hval0
  have hW' := hW
  obtain ⟨p, q, hA0, hV, rfl, hfz, hnd⟩ := hW
  have hA : DataW.TrodAll enc Tryd.prog W 0 (fun _ => true) true Tryd.f11.params.toList args.toList ds p := hA0
  rw [Tryd.params11] at hA hval
  obtain ⟨v0, vs0, d0, ds0, p0, q0, hargs, rfl, rfl, h0, r0⟩ := trodAll_cons hA
  obtain ⟨rfl, rfl, rfl⟩ := trodAll_nil r0
  obtain rfl : args = #[v0] := by cases args; simp_all
  obtain ⟨rfl, rfl⟩ := trodVars_none hV
  obtain ⟨a0, rfl, rfl, rfl, w0⟩ := open_string Tryd.underlying9 (hval 0 9 v0 rfl rfl) h0
  clear hA0 hval0
  refine (walk a0 w0 W hE4 hE3 hE0 hE5 hE2 hE9 hE10 hE8).mono fun e W' ⟨he, hb⟩ => ?_
  subst he
  exact ⟨_, rfl, law_post laidOut (by kernel_rfl) rfl Tryd.underlying4 rfl hW' rfl rfl rfl hb⟩

theorem over : Rows.fnServerKeyPskBackRow.holds Tryd.pinned (OpenSpec.ofChange Rows.fnServerKeyPskBackSpec) :=
  OpenClaim.holds_of_wide 11 Tryd.f11 rfl rfl rfl rfl rfl rfl rfl ⟨rfl, rfl, rfl, rfl, rfl⟩ rfl rfl rfl rfl rfl (by kernel_rfl) Tryd.func11 (by kernel_rfl)
    (of_decide_eq_true (by kernel_rfl)) (by unfold Func.isWrapper; first | (rw [if_pos (by decide +kernel)]; kernel_rfl) | (rw [if_neg (by decide +kernel)]; exact ⟨rfl, rfl⟩))
    (fun os started H enc _ => lifted os started H enc)

/-- THE STATEMENT: the tied card. -/
theorem proved : Rows.FnServerKeyPskBackCardSaid :=
  Claim7.holds_tied_plain_at .later [] [.sentinel, .sentinel, .sentinel, .sentinel, .sentinel, .sentinel, .sentinel, .sentinel] true (true, "95981ff32050a1d63004a96526c910ed9d53212958c496c55a23d95c015f7d7c") true
    over (fun _ h => by cases h) (by kernel_rfl) (fun _ h => by cases h) fnServerKeyPskBack_row_tie rfl ⟨rfl, rfl⟩ (by kernel_rfl) rfl
    (fun f fn hf hfn => by
      obtain rfl : f = 11 := Option.some.inj ((show Tryd.prog.funcNamed "pub-convoy/laws.FnServerKeyPskBack" = some 11 by kernel_rfl).symm.trans hf) |>.symm
      obtain rfl : fn = Tryd.f11 := (Option.some.inj (Tryd.func11.symm.trans hfn)).symm
      exact ⟨by kernel_rfl, fun j t ht => by
        rw [Tryd.params11] at ht
        have hm : t ∈ [9] := by simpa using Array.mem_of_getElem? ht
        have hall : ([9].all fun u => !Tryd.prog.wantsStandIn u) = true := by kernel_rfl
        exact (show Tryd.prog.wantsStandIn t = false by simpa using List.all_eq_true.1 hall t hm)⟩)
    (by kernel_rfl)
#print axioms proved

end Go.Proofs.YtpmlcllpigcccaaDoor.fnServerKeyPskBack
