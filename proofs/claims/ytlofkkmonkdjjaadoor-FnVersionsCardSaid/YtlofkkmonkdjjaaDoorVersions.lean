/- FnVersions: for every pair of bytes the law returns true. The listed variable (Version1_2) is tied to the program's text. -/
import Derived.Test.YtlofkkmonkdjjaaDoorDoor
namespace Go.Proofs.YtlofkkmonkdjjaaDoor.fnVersions
open Go.ChangeShapes Go.WideShapes Go.ChangeAt Go.RowKit Go.Proofs.YtlofkkmonkdjjaaDoor
set_option linter.unusedVariables false

def DATA0 (w : World) : Prop := w.cell? ⟨0, 0, none⟩ = some (.int .u8 254) ∧ w.cell? ⟨0, 1, none⟩ = some (.int .u8 253)
set_option maxRecDepth 100000 in
theorem data0_of_laid {W : World} {r : List (String × DataW Unit)} (h : laidMet Tryd.prog (("pub-convoy/pub/dtls/pkg/protocol.Version1_2", .agg [.lit (.int .u8 254), .lit (.int .u8 253)]) :: r) W) : DATA0 W := by
  obtain ⟨ps, ⟨g0, t0, cs0, f0, p0, q0, hg0, ht0, hv0, hd0, _, _⟩, _⟩ := h
  obtain rfl := Option.some.inj ((show Tryd.prog.globalNamed "pub-convoy/pub/dtls/pkg/protocol.Version1_2" = some 0 by kernel_rfl).symm.trans hg0)
  obtain rfl := Option.some.inj ((show (Tryd.prog.globals[0]?).map (·.type) = some 119 by kernel_rfl).symm.trans ht0)
  have c0 := World.var?_cell hg0 hv0 0
  have c1 := World.var?_cell hg0 hv0 1
  obtain ⟨l⟩ := cs0
  obtain ⟨ys, n, hn, hy, hlen, hyl, hf⟩ := DataW.trod_struct Tryd.underlying119 hd0
  have cs : Tryd.prog.cellsOf 119 = 2 := by kernel_rfl
  rw [cs] at hlen
  match l, hlen, ys, hyl with
  | [x0, x1], _, [y0, y1], _ =>
    have h0 := hf 0 _ rfl
    have h1 := hf 1 _ rfl
    obtain ⟨n0, e0, f0, _⟩ := DataW.trod_int Tryd.underlying5 (show DataW.trod _ Tryd.prog W 0 _ false n 5 [x0] = some y0 from h0)
    obtain ⟨n1, e1, f1, _⟩ := DataW.trod_int Tryd.underlying5 (show DataW.trod _ Tryd.prog W 0 _ false n 5 [x1] = some y1 from h1)
    subst f0 f1
    simp at hy e0 e1
    subst e0 e1
    obtain ⟨⟨rfl, rfl⟩, _⟩ := hy
    exact ⟨by simpa using c0, by simpa using c1⟩

theorem walk (a0 : Int) (w0 : (Lit.int .u8 a0).wf = true) (a1 : Int) (w1 : (Lit.int .u8 a1).wf = true) (w : World)  (hE0 : DATA0 w) :
    Calls Tryd.prog 3 #[.int .u8 a0, .int .u8 a1] w fun e w' => e = .returned (.bool true) ∧ Below w.heap.size w w' := by
  obtain ⟨c0, c1⟩ := hE0
  have b0 := bounds_u8 w0
  have b1 := bounds_u8 w1
  clear w0 w1
  go_enter Tryd.func3, Tryd.ntmps3
  go_wp2
  all_goals
    go_ret
    exact ⟨rfl, Below.refl _ _⟩
abbrev laidL : List (String × DataW Unit) := [("pub-convoy/pub/dtls/pkg/protocol.Version1_2", Rows.laid_pub_convoy_pub_dtls_pkg_protocol_Version1_2)]
theorem door_met (os : Os) (args : Array Value) : laidMetH Tryd.prog laidL ((World.doorLaid Tryd.prog 147 os).forCall (fun _ _ => 0) ⟨#[], args, []⟩).memory :=
  laidMetH_of_parts3 (fuel := 8) (laidMet_of_run' 8 (by kernel_rfl) (by kernel_rfl)) (by kernel_rfl) (by kernel_rfl)
theorem of_laid {W : World} (h : laidMetH Tryd.prog laidL W) : DATA0 W := by
  rw [MakeChecks.laidMetH_plain _ _ _ (by kernel_rfl)] at h
  have k0 := data0_of_laid h
  exact k0
set_option maxRecDepth 100000 in
theorem lifted (os : Os) (started : os.Started) (H : Type) (enc : TypeId × Value → H) :
    ReturnsInHanded {} Tryd.checked os 3 .any (fun w args => (Rows.fnVersionsSpec.pre enc Tryd.prog Tryd.f3 [] false w args ∧ laidMetH Tryd.prog laidL w) ∧ sizedMet enc Tryd.prog Tryd.f3 (OpenSpec.ofChange Rows.fnVersionsSpec) false w args)
      (Rows.fnVersionsSpec.post enc Tryd.prog Tryd.f3 false true false false) := by
  refine returnsInHanded_of_change_and (C := Tryd.checked) (X := fun w _ => laidMetH Tryd.prog laidL w) (fun _ _ _ hh h => h.of_heap hh) own started (by kernel_rfl) Tryd.func3
    (ChangeSpec.witness_shaped (enc := enc) (C := Tryd.checked) (os := os) (X := fun w _ => laidMetH Tryd.prog laidL w) false (World.doorLaid Tryd.prog 147 os) #[.int .u8 0, .int .u8 0] 8 rfl (World.shaped_of_RefB (by kernel_rfl) (by kernel_rfl)) (by kernel_rfl) (by kernel_rfl) (by kernel_rfl) (door_met os _)) ?_
  intro W base args ds gs before hval0 hW _ _ hL _
  have hE0 := of_laid hL
  have hval : ∀ (j : Nat) t v, Tryd.f3.params[j]? = some t → args[j]? = some v → Value.okWide Tryd.prog W .any base t v := hval0
  have hW' := hW
  obtain ⟨p, q, hA0, hV, rfl, hfz, hnd⟩ := hW
  have hA : DataW.TrodAll enc Tryd.prog W 0 (fun _ => true) true Tryd.f3.params.toList args.toList ds p := hA0
  rw [Tryd.params3] at hA hval
  obtain ⟨v0, vs0, d0, ds0, p0, q0, hargs, rfl, rfl, h0, r0⟩ := trodAll_cons hA
  obtain ⟨v1, vs1, d1, ds1, p1, q1, rfl, rfl, rfl, h1, r1⟩ := trodAll_cons r0
  obtain ⟨rfl, rfl, rfl⟩ := trodAll_nil r1
  obtain rfl : args = #[v0, v1] := by cases args; simp_all
  obtain ⟨rfl, rfl⟩ := trodVars_none hV
  obtain ⟨a0, rfl, rfl, rfl, w0⟩ := open_int Tryd.underlying5 (hval 0 5 v0 rfl rfl) h0
  obtain ⟨a1, rfl, rfl, rfl, w1⟩ := open_int Tryd.underlying5 (hval 1 5 v1 rfl rfl) h1
  clear hA0 hval0
  refine (walk a0 w0 a1 w1 W hE0).mono fun e W' ⟨he, hb⟩ => ?_
  subst he
  exact ⟨_, rfl, law_post laidOut (by kernel_rfl) rfl Tryd.underlying4 rfl hW' rfl rfl rfl hb⟩

theorem over : Rows.fnVersionsRow.holds Tryd.pinned (OpenSpec.ofChange Rows.fnVersionsSpec) :=
  OpenClaim.holds_of_wide 3 Tryd.f3 rfl rfl rfl rfl rfl rfl rfl ⟨rfl, rfl, rfl, rfl, rfl⟩ rfl rfl rfl rfl rfl (by kernel_rfl) Tryd.func3 (by kernel_rfl)
    (of_decide_eq_true (by kernel_rfl)) (by unfold Func.isWrapper; first | (rw [if_pos (by decide +kernel)]; kernel_rfl) | (rw [if_neg (by decide +kernel)]; exact ⟨rfl, rfl⟩))
    (fun os started H enc _ => lifted os started H enc)

/-- THE STATEMENT: the tied card. -/
theorem proved : Rows.FnVersionsCardSaid :=
  Claim7.holds_tied_plain_at .later [] [.data] true (true, "312c705599dff8e1b66b31ff244df6cdee9f20dfac1ec51796f1c787a488a9af") false
    over (fun _ h => by cases h) (by kernel_rfl) (fun _ h => by cases h) fnVersions_row_tie rfl ⟨rfl, rfl⟩ (by kernel_rfl) rfl
    (fun f fn hf hfn => by
      obtain rfl : f = 3 := Option.some.inj ((show Tryd.prog.funcNamed "pub-convoy/laws.FnVersions" = some 3 by kernel_rfl).symm.trans hf) |>.symm
      obtain rfl : fn = Tryd.f3 := (Option.some.inj (Tryd.func3.symm.trans hfn)).symm
      exact ⟨by kernel_rfl, fun j t ht => by
        rw [Tryd.params3] at ht
        have hm : t ∈ [5, 5] := by simpa using Array.mem_of_getElem? ht
        have hall : ([5, 5].all fun u => !Tryd.prog.wantsStandIn u) = true := by kernel_rfl
        exact (show Tryd.prog.wantsStandIn t = false by simpa using List.all_eq_true.1 hall t hm)⟩)
    (by kernel_rfl)
#print axioms proved

end Go.Proofs.YtlofkkmonkdjjaaDoor.fnVersions
