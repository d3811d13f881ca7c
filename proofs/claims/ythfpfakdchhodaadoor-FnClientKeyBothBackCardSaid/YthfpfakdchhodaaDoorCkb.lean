/- FnClientKeyBothBack: for every hint and every public key the law returns true. -/
import Derived.Test.YthfpfakdchhodaaDoorDoor
import Derived.Test.YthfpfakdchhodaaDoorSameMsg
import Derived.Test.YthfpfakdchhodaaDoorCkbA
import Derived.StillTailTactics
import Derived.Deep.RegionHeld3
import Derived.Deep.RegionWith
import Derived.RegionTactic
import Derived.BigRegion
import Derived.BigFrame
import Derived.Great.Ranges
import Derived.Great.BuildSlice
namespace Go.Proofs.YthfpfakdchhodaaDoor.fnClientKeyBothBack
open Go.ChangeShapes Go.WideShapes Go.ChangeAt Go.RowKit Go.Proofs.YthfpfakdchhodaaDoor
open Go.ChangeMaps (open_string shut_string)
set_option linter.unusedVariables false

section
variable {P : Program} {w : World} {ops : Array Oper} {rest : List Oper} {o : Oper} {a : Act} {Q : Exit → Act → World → Prop}
theorem wpList_build_want (hw : Region.wanted o (yielded ops a.tmps) = true) (t : TypeId) (parts : Array (Nat × Operand)) (ho : o.op = .build t parts) (d : Option Tmp) (hd : o.dst = d) (cells : Array Value) (hf : P.built t (parts.map fun (i, x) => (i, a.eval x)).toList = some cells)
    (h : wpList P ops Q rest (a.put d (.agg cells)) w) : wpList P ops Q (o :: rest) a w := by
  subst hd
  exact Go.BigFrame.wpList_want hw fun K hK => wp_build t parts ho (by rw [hf]; rfl) (by rw [hf]; exact hK _ _ h)
theorem wpList_load_want (hw : Region.wanted o (yielded ops a.tmps) = true) (ty : TypeId) (x : Operand) (ho : o.op = .load ty x) (d' : Option Tmp) (hd' : o.dst = d') (b f : Nat) (hx : a.eval x = .pointer (some ⟨b, f, none⟩)) (cs : List Value) (d : TypeDesc) (hc : w.rangeAt b f cs)
    (hu : P.underlying ty = some d) (hr : d.isRow = true) (hi : (P.info? ty).map (·.size) = some cs.length) (h : wpList P ops Q rest (a.put d' (.agg cs.toArray)) w) : wpList P ops Q (o :: rest) a w := by
  subst hd'
  exact Go.BigFrame.wpList_want hw fun K hK => wp_load_mid ty x ho b f hx cs d hc hu hr hi (hK _ _ h)
end
set_option maxRecDepth 3000000 in
set_option maxHeartbeats 8000000 in
theorem walk (a0 : ByteArray) (w0 : a0.size ≤ maxLen) (a1 : ByteArray) (w1 : a1.size ≤ maxLen) (w : World)  (hE16 : ErrAt 205 16 w) (hE17 : ErrAt 205 17 w) :
    Calls Tryd.prog 11 #[.string a0, .string a1] w fun e w' => e = .returned (.bool true) ∧ Below w.heap.size w w' := by
  obtain ⟨h, rfl⟩ := exS a0
  obtain ⟨p, rfl⟩ := exS a1
  have hS := S_size
  clear w0 w1 hE16 hE17
  by_cases hz : 2147483647 < (h.length : Int)
  · go_enter Tryd.func11, Tryd.ntmps11
    go_wp2
    go_ret
    exact ⟨rfl, Below.refl _ _⟩
  by_cases hz2 : 2147483647 < (p.length : Int)
  · go_enter Tryd.func11, Tryd.ntmps11
    go_wp2
    go_ret
    exact ⟨rfl, Below.refl _ _⟩
  by_cases hp0 : (0 : Int) < (p.length : Int)
  · by_cases hp1 : (p.length : Int) < 256
    · by_cases h0 : (0 : Int) < (h.length : Int)
      · by_cases h1 : (h.length : Int) < 60000
        · have hd : decide ((h.length : Int) < 60000) = true := by simp only [decide_eq_true_eq]; omega
          have hA := S_append
          have hV := vecL_length
          have hh0 : 0 < h.length := by omega
          have hq0 : 0 < p.length := by omega
          have hq1 : p.length < 256 := by omega
          have HL := Lib.hid (show h.length < 60000 by omega)
          clear h1
          go_enter Tryd.func11, Tryd.ntmps11
          go_wp2_with fail
          refine (vec_any h 2 w (by omega) (by omega) (by omega)).mono ?_
          rintro e w1 ⟨rfl, hb1⟩
          have HB1 := Lib.hid hb1
          clear hb1
          go_wp2_with fail
          refine (vec_any p 1 w1 (by omega) (by omega) (by omega)).mono ?_
          rintro e w1' ⟨rfl, hb1'⟩
          have HB1' := Lib.hid (HB1.out.trans (hb1'.mono HB1.out.size))
          clear hb1'
          go_wp2_with fail
          refine (read_ok h p w1' hh0 HL.out hq0 hq1).mono ?_
          rintro e w2 ⟨rfl, hb2⟩
          have HB2 := Lib.hid (HB1'.out.trans (hb2.mono HB1'.out.size))
          clear hb2
          go_wp2_with (first | (refine wpList_store_blk (Blk.new_at w2.heap.size rfl 52 zeroMsg) rfl (.tmp 5) (.tmp 41) rfl (ckMsg h p) rfl rfl rfl (by kernel_rfl) (msg_one h p) ?_; intro w3 hr3 hg3; have HR3 := Lib.hid hr3; have HB3 := Lib.hid (below_only (HB2.out.alloc HB2.out.size _) hg3 (by have := HB2.out.size; simp; omega) HB2.out.size); clear hr3 hg3) | (refine wpList_load_want (by rfl) 52 (.tmp 5) rfl (some 45) rfl _ _ rfl (ckMsg h p).toList _ HR3.out.rangeAt Tryd.underlying52 rfl (by kernel_rfl) ?_) | (refine wpList_build_want (by rfl) 52 _ rfl (some 48) rfl (ckMsg h p) (by kernel_rfl) ?_))
          refine (sameMessage_of 16 false 0 0 0 ⟨#[]⟩ ⟨#[]⟩ ⟨#[]⟩ 0 0 ⟨#[]⟩ (S h) (S p) 6 0 0 ⟨#[]⟩ ⟨#[]⟩ _ _ _ _ _ _ _ _ _ _ _ (same_nil_u16 none none 0 0 _ _) (same_nil_u8 none none 0 0 _ _) (same_nil_str none none 0 0 _ _) (same_nil_u8 none none 0 0 _ _) (same_nil_pair none none 0 0 _ _)).mono ?_
          rintro e w4 ⟨rfl, hb4⟩
          have HB4 := Lib.hid (HB3.out.trans (hb4.mono HB3.out.size))
          clear hb4
          go_wp2
          go_ret
          exact ⟨rfl, HB4.out⟩
        · have hd : decide ((h.length : Int) < 60000) = false := by simp only [decide_eq_false_iff_not]; omega
          clear h1
          go_enter Tryd.func11, Tryd.ntmps11
          go_wp2
          go_ret
          exact ⟨rfl, Below.refl _ _⟩
      · go_enter Tryd.func11, Tryd.ntmps11
        go_wp2
        go_ret
        exact ⟨rfl, Below.refl _ _⟩
    · go_enter Tryd.func11, Tryd.ntmps11
      go_wp2
      go_ret
      exact ⟨rfl, Below.refl _ _⟩
  · go_enter Tryd.func11, Tryd.ntmps11
    go_wp2
    go_ret
    exact ⟨rfl, Below.refl _ _⟩
abbrev laidL : List (String × DataW Unit) := [("pub-convoy/pub/dtls/pkg/protocol/handshake.errBufferTooSmall", Rows.laid_pub_convoy_pub_dtls_pkg_protocol_handshake_errBufferTooSmall), ("pub-convoy/pub/dtls/pkg/protocol/handshake.errCipherSuiteUnset", Rows.laid_pub_convoy_pub_dtls_pkg_protocol_handshake_errCipherSuiteUnset)]
theorem door_met (os : Os) (args : Array Value) : laidMetH Tryd.prog laidL ((World.doorLaid Tryd.prog 323 os).forCall (fun _ _ => 0) ⟨#[], args, []⟩).memory :=
  laidMetH_of_parts3 (fuel := 8) (laidMet_of_run' 8 (by kernel_rfl) (by kernel_rfl)) (by kernel_rfl) (by kernel_rfl)
theorem of_laid {W : World} (h : laidMetH Tryd.prog laidL W) : ErrAt 205 16 W ∧ ErrAt 205 17 W := by
  rw [MakeChecks.laidMetH_plain _ _ _ (by kernel_rfl)] at h
  have k0 := errAt_of_laid h (show Tryd.prog.globalNamed "pub-convoy/pub/dtls/pkg/protocol/handshake.errBufferTooSmall" = some 16 by kernel_rfl) (by kernel_rfl)
  have h1 := h.tail
  have k1 := errAt_of_laid h1 (show Tryd.prog.globalNamed "pub-convoy/pub/dtls/pkg/protocol/handshake.errCipherSuiteUnset" = some 17 by kernel_rfl) (by kernel_rfl)
  exact ⟨k0, k1⟩
set_option maxRecDepth 100000 in
theorem lifted (os : Os) (started : os.Started) (H : Type) (enc : TypeId × Value → H) :
    ReturnsInHanded {} Tryd.checked os 11 .any (fun w args => (Rows.fnClientKeyBothBackSpec.pre enc Tryd.prog Tryd.f11 [] false w args ∧ laidMetH Tryd.prog laidL w) ∧ sizedMet enc Tryd.prog Tryd.f11 (OpenSpec.ofChange Rows.fnClientKeyBothBackSpec) false w args)
      (Rows.fnClientKeyBothBackSpec.post enc Tryd.prog Tryd.f11 false true false false) := by
  refine returnsInHanded_of_change_and (C := Tryd.checked) (X := fun w _ => laidMetH Tryd.prog laidL w) (fun _ _ _ hh h => h.of_heap hh) own started (by kernel_rfl) Tryd.func11
    (ChangeSpec.witness_shaped (enc := enc) (C := Tryd.checked) (os := os) (X := fun w _ => laidMetH Tryd.prog laidL w) false (World.doorLaid Tryd.prog 323 os) #[.string ByteArray.empty, .string ByteArray.empty] 8 rfl (World.shaped_of_RefB (by kernel_rfl) (by kernel_rfl)) (by kernel_rfl) (by kernel_rfl) (by kernel_rfl) (door_met os _)) ?_
  intro W base args ds gs before hval0 hW _ _ hL _
  obtain ⟨hE16, hE17⟩ := of_laid hL
  have hval : ∀ (j : Nat) t v, Tryd.f11.params[j]? = some t → args[j]? = some v → Value.okWide Tryd.prog W .any base t v := hval0
  have hW' := hW
  obtain ⟨p, q, hA0, hV, rfl, hfz, hnd⟩ := hW
  have hA : DataW.TrodAll enc Tryd.prog W 0 (fun _ => true) true Tryd.f11.params.toList args.toList ds p := hA0
  rw [Tryd.params11] at hA hval
  obtain ⟨v0, vs0, d0, ds0, p0, q0, hargs, rfl, rfl, h0, r0⟩ := trodAll_cons hA
  obtain ⟨v1, vs1, d1, ds1, p1, q1, rfl, rfl, rfl, h1, r1⟩ := trodAll_cons r0
  obtain ⟨rfl, rfl, rfl⟩ := trodAll_nil r1
  obtain rfl : args = #[v0, v1] := by cases args; simp_all
  obtain ⟨rfl, rfl⟩ := trodVars_none hV
  obtain ⟨a0, rfl, rfl, rfl, w0⟩ := open_string Tryd.underlying9 (hval 0 9 v0 rfl rfl) h0
  obtain ⟨a1, rfl, rfl, rfl, w1⟩ := open_string Tryd.underlying9 (hval 1 9 v1 rfl rfl) h1
  clear hA0 hval0
  refine (walk a0 w0 a1 w1 W hE16 hE17).mono fun e W' ⟨he, hb⟩ => ?_
  subst he
  exact ⟨_, rfl, law_post laidOut (by kernel_rfl) rfl Tryd.underlying4 rfl hW' rfl rfl rfl hb⟩

theorem over : Rows.fnClientKeyBothBackRow.holds Tryd.pinned (OpenSpec.ofChange Rows.fnClientKeyBothBackSpec) :=
  OpenClaim.holds_of_wide 11 Tryd.f11 rfl rfl rfl rfl rfl rfl rfl ⟨rfl, rfl, rfl, rfl, rfl⟩ rfl rfl rfl rfl rfl (by kernel_rfl) Tryd.func11 (by kernel_rfl)
    (of_decide_eq_true (by kernel_rfl)) (by unfold Func.isWrapper; first | (rw [if_pos (by decide +kernel)]; kernel_rfl) | (rw [if_neg (by decide +kernel)]; exact ⟨rfl, rfl⟩))
    (fun os started H enc _ => lifted os started H enc)

/-- THE STATEMENT: the tied card. -/
theorem proved : Rows.FnClientKeyBothBackCardSaid :=
  Claim7.holds_tied_plain_at .later [] [.sentinel, .sentinel] true (true, "20b3b98fcc8707e4b2223a6ae671195b166d92b4110cce829ed6e3bbef5fa288") false
    over (fun _ h => by cases h) (by kernel_rfl) (fun _ h => by cases h) fnClientKeyBothBack_row_tie rfl ⟨rfl, rfl⟩ (by kernel_rfl) rfl
    (fun f fn hf hfn => by
      obtain rfl : f = 11 := Option.some.inj ((show Tryd.prog.funcNamed "pub-convoy/laws.FnClientKeyBothBack" = some 11 by kernel_rfl).symm.trans hf) |>.symm
      obtain rfl : fn = Tryd.f11 := (Option.some.inj (Tryd.func11.symm.trans hfn)).symm
      exact ⟨by kernel_rfl, fun j t ht => by
        rw [Tryd.params11] at ht
        have hm : t ∈ [9, 9] := by simpa using Array.mem_of_getElem? ht
        have hall : ([9, 9].all fun u => !Tryd.prog.wantsStandIn u) = true := by kernel_rfl
        exact (show Tryd.prog.wantsStandIn t = false by simpa using List.all_eq_true.1 hall t hm)⟩)
    (by kernel_rfl)
#print axioms proved

end Go.Proofs.YthfpfakdchhodaaDoor.fnClientKeyBothBack
