/- FnInnerRead: for every text the law returns true: an inner plaintext is read just where a byte is not 0. The listed sentinel is tied to the program's text. -/
import Derived.Test.YtlofkkmonkdjjaaDoorDoor
import Derived.Test.YtlofkkmonkdjjaaDoorWords
namespace Go.Proofs.YtlofkkmonkdjjaaDoor.fnInnerRead
open Go.ChangeShapes Go.WideShapes Go.ChangeAt Go.RowKit Go.Proofs.YtlofkkmonkdjjaaDoor
open Go.ChangeMaps (open_string shut_string)
set_option linter.unusedVariables false

/-- the a-th byte of l is the last that is not 0 -/
def Last (l : List UInt8) (a : Nat) : Prop := a < l.length ∧ bat l a ≠ 0 ∧ ∀ j, a < j → j < l.length → bat l j = 0
theorem last_or (l : List UInt8) : (∃ a, Last l a) ∨ ∀ j, j < l.length → bat l j = 0 := by
  suffices h : ∀ n, n ≤ l.length → (∃ a, Last l a) ∨ ∀ j, l.length - n ≤ j → j < l.length → bat l j = 0 by
    rcases h l.length (Nat.le_refl _) with h | h
    · exact .inl h
    · exact .inr fun j hj => h j (by omega) hj
  intro n
  induction n with
  | zero => exact fun _ => .inr fun j h1 h2 => by omega
  | succ n ih =>
    intro hn
    rcases ih (by omega) with h | h
    · exact .inl h
    · by_cases h0 : bat l (l.length - (n + 1)) = 0
      · refine .inr fun j h1 h2 => ?_
        by_cases e : j = l.length - (n + 1)
        · subst e; exact h0
        · exact h j (by omega) h2
      · exact .inl ⟨l.length - (n + 1), by omega, h0, fun j h1 h2 => h j (by omega) h2⟩

def UnmOk (l : List UInt8) (a b : Nat) (w : World) (e : Ending) (w' : World) : Prop :=
  ∃ A c, e = .returned .nilIface ∧ Blk w' b 64 [.slice A a c, .int .u8 (bat l a : Int), .int .u64 ((l.length : Int) - 1 - a)] ∧ Sl w' A (cells8 (l.take a)) ∧ w.grownBy w' (some b)
set_option maxRecDepth 100000 in
theorem unm_ok (l : List UInt8) (a b B0 cap : Nat) (x0 x1 x2 : Value) (w : World) (hn : l.length ≤ 2147483647) (hcap : l.length ≤ cap) (hb : Blk w b 64 [x0, x1, x2]) (hs : Sl w (some ⟨B0, 0, none⟩) (cells8 l)) (hne : B0 ≠ b) (ha : Last l a) :
    Calls Tryd.prog 26 #[.pointer (some ⟨b, 0, none⟩), .slice (some ⟨B0, 0, none⟩) l.length cap] w (UnmOk l a b w) := by
  have HB := hide hb
  have HS := hide hs
  have c0 : w.cell? ⟨b, 0, none⟩ = some x0 := hb.cell 0
  have c1 : w.cell? ⟨b, 1, none⟩ = some x1 := hb.cell 1
  have c2 : w.cell? ⟨b, 2, none⟩ = some x2 := hb.cell 2
  have z0 := hb.frozen 0
  have z1 := hb.frozen 1
  have z2 := hb.frozen 2
  have hblt := hb.lt
  obtain ⟨ha1, ha2, ha3⟩ := ha
  have HA2 := Lib.hid ha2
  have HA3 := Lib.hid ha3
  clear hb hs ha2 ha3
  go_enter Tryd.func26, Tryd.ntmps26
  go_wp2
  go_loop [5] (fun i => ∃ k : Nat, a ≤ k ∧ k < l.length ∧ i = .int .i64 k) (fun i => (intOf i).toNat)
  case atStart => exact ⟨l.length - 1, by omega, by omega, by go_num⟩
  case round =>
    obtain ⟨k, hk1, hk2, rfl⟩ := hrel
    have hck : w.cell? ⟨B0, k, none⟩ = some (.int .u8 (bat l k : Int)) := by
      obtain ⟨b', o', e, hc⟩ := HS.out k _ (cells8_get l k hk2)
      injection e with e; injection e with e1 e2; subst e1 e2
      simpa using hc
    by_cases hlt : a < k
    · have h0 := HA3.out k hlt hk2
      have ht : ((bat l k : Int) != 0) = false := by rw [h0]; rfl
      have HCK := Lib.hid h0
      clear h0
      go_wp2
      go_round
      case rel => exact ⟨k - 1, by omega, by omega, by go_num⟩
      case measure => simp [intOf]; omega
    · obtain rfl : k = a := by omega
      have ht : ((bat l k : Int) != 0) = true := by simpa using HA2.out
      go_wp2_with (at_builtin; refine wpList_append el8 rfl _ _ rfl (v := .slice (some ⟨w.heap.size, 0, none⟩) 0 0) rfl (ownsRow_empty_at _ w.heap.size _ _ w.heap.size (by simp [World.setCell]) (Nat.le_refl _)) rfl (news := cells8 (l.take k)) (by simp [cells8_length]; omega) (by rw [cells8_take]; exact (HS.out.only_at (only_alloc (only_setCell (only_setCell (only_refl w (some b)) (.inl rfl) _) (.inl rfl) _) _) hne).take k) (cells8_one _) (by omega) (by unfold maxLen; omega) (by simp) ?_; intro v' w' hown' hg' hb' hat'; obtain ⟨A', c', hv', hs', _, _, hA'⟩ := own_sl' hown'; have HA' := hide hA'; clear hA'; subst hv'; have hbk := Blk.grown (((HB.out.set_ 2 _).set_ 1 _).alloc _) hg' (by simp [Value.ownBlock]; omega); have d0 : w'.cell? ⟨b, 0, none⟩ = some x0 := hbk.cell 0; have y0 : w'.frozen? ⟨b, 0, none⟩ = false := hbk.frozen 0; have HBK := hide hbk; have HS' := hide hs'; have HG := hide hg'; clear hbk hs' hg' hown' hb' hat')
      go_ret
      have hb2 := HBK.out.set_ 0 (.slice A' k c')
      refine ⟨A', c', rfl, ?_, ?_, ?_⟩
      · exact hb2
      · exact (HS'.out).setCell_far (fun b' o' e => by have := (HA'.out b' o' e).1; simp; omega) _
      · exact only_setCell (only_trans' (only_alloc (only_setCell (only_setCell (only_refl w (some b)) (.inl rfl) _) (.inl rfl) _) _) HG.out (by simp [Value.ownBlock])) (.inl rfl) _
set_option maxRecDepth 100000 in
theorem unm_bad (l : List UInt8) (b B0 cap : Nat) (x : Addr) (w : World) (hn : l.length ≤ 2147483647) (hcap : l.length ≤ cap) (hs : Sl w (some ⟨B0, 0, none⟩) (cells8 l)) (h0 : ∀ j, j < l.length → bat l j = 0) (hE : w.cell? ⟨1, 0, none⟩ = some (.iface 131 (.pointer (some x)))) :
    Calls Tryd.prog 26 #[.pointer (some ⟨b, 0, none⟩), .slice (some ⟨B0, 0, none⟩) l.length cap] w fun e w' => e = .returned (.iface 131 (.pointer (some x))) ∧ w = w' := by
  have HS := hide hs
  have H0 := Lib.hid h0
  clear hs h0
  go_enter Tryd.func26, Tryd.ntmps26
  go_wp2
  go_loop [5] (fun i => ∃ k : Nat, k ≤ l.length ∧ i = .int .i64 ((k : Int) - 1)) (fun i => (intOf i + 1).toNat)
  case atStart => exact ⟨l.length, by omega, rfl⟩
  case round =>
    obtain ⟨k, hk, rfl⟩ := hrel
    by_cases hlt : 0 < k
    · obtain ⟨j, rfl⟩ : ∃ j, k = j + 1 := ⟨k - 1, by omega⟩
      have e1 : ((j + 1 : Nat) : Int) - 1 = (j : Int) := by omega
      rw [e1]
      clear e1
      have hcj : w.cell? ⟨B0, j, none⟩ = some (.int .u8 (bat l j : Int)) := by
        obtain ⟨b', o', e, hc⟩ := HS.out j _ (cells8_get l j (by omega))
        injection e with e; injection e with e1 e2; subst e1 e2
        simpa using hc
      have ht : ((bat l j : Int) != 0) = false := by rw [H0.out j (by omega)]; rfl
      go_wp2
      go_round
      case rel => exact ⟨j, by omega, rfl⟩
      case measure => simp [intOf]
    · obtain rfl : k = 0 := by omega
      go_wp2
      go_ret
      exact ⟨rfl, rfl⟩

def ReadOk (l : List UInt8) (a : Nat) (w : World) (e : Ending) (w' : World) : Prop :=
  e = .returned (.tuple #[.string (S (l.take a)), .int .u8 (bat l a : Int), .int .u64 ((l.length : Int) - 1 - a), .bool true]) ∧ Below w.heap.size w w'
set_option maxRecDepth 100000 in
theorem read_ok (l : List UInt8) (a : Nat) (w : World) (hn : l.length ≤ 2147483647) (ha : Last l a) :
    Calls Tryd.prog 12 #[.string (S l)] w (ReadOk l a w) := by
  have hS := S_size
  have HA := hide ha
  clear ha
  go_enter Tryd.func12, Tryd.ntmps12
  go_wp2_with (refine wpList_bytes (o := ⟨some 9, _, _, _, _, _⟩) rfl _ rfl Tryd.underlying9 Tryd.underlying29 Tryd.underlying5 rfl (w.heap.size + 1) (by simp) ?_; intro cap w1 hcap hs1 hb1 hlt1 hx1; have HCAP := hide hcap; have HS1 := hide hs1; have HB1 := hide hb1; have HLT1 := hide hlt1; clear hcap hs1 hb1 hlt1 hx1)
  have hbk1 := hide ((Blk.new w 64 [.slice none 0 0, .int .u8 0, .int .u64 0]).below HB1.out (by omega))
  refine (unm_ok l a w.heap.size (w.heap.size + 1) cap _ _ _ w1 hn HCAP.out hbk1.out HS1.out (by omega) HA.out).mono ?_
  rintro e w2 ⟨A, c, rfl, hbk2, hs2, hg2⟩
  have d0 : w2.cell? ⟨w.heap.size, 0, none⟩ = some (.slice A a c) := hbk2.cell 0
  have d1 : w2.cell? ⟨w.heap.size, 1, none⟩ = some (.int .u8 (bat l a : Int)) := hbk2.cell 1
  have d2 : w2.cell? ⟨w.heap.size, 2, none⟩ = some (.int .u64 ((l.length : Int) - 1 - a)) := hbk2.cell 2
  have hstr := fun n : Nat => run_string_of (P := Tryd.prog) (w2.drewN n) Tryd.underlying29 Tryd.underlying5 Tryd.underlying9 (c := c) (n := a) (l := l.take a) (by have := HA.out.1; simp; omega) hs2
  have HB := Lib.hid (show Below w.heap.size w w2 from ((Below.refl _ _).alloc (Nat.le_refl _) _).trans ((HB1.out.mono (by omega)).grown hg2 (by have := HLT1.out; omega) (fun k e => by injection e with e; omega)))
  clear hbk1 hbk2 hs2 hg2
  go_wp2
  go_quiet (fail)
  go_wp2
  refine bodyPost_ret (results_tmp4 rfl _ _ _) rfl ?_
  exact ⟨rfl, below_drewN HB.out _⟩

set_option maxRecDepth 100000 in
theorem read_bad (l : List UInt8) (w : World) (hn : l.length ≤ 2147483647) (h0 : ∀ j, j < l.length → bat l j = 0) (hE : ErrAt 131 1 w) :
    Calls Tryd.prog 12 #[.string (S l)] w fun e w' => e = .returned (.tuple #[.string ByteArray.empty, .int .u8 0, .int .u64 0, .bool false]) ∧ Below w.heap.size w w' := by
  obtain ⟨x, hx⟩ := hE
  have HX := hide hx
  have HXL := hide (World.block_lt_of_cell? w _ hx)
  have H0 := hide h0
  clear h0 hx
  go_enter Tryd.func12, Tryd.ntmps12
  go_wp2_with (refine wpList_bytes (o := ⟨some 9, _, _, _, _, _⟩) rfl _ rfl Tryd.underlying9 Tryd.underlying29 Tryd.underlying5 rfl (w.heap.size + 1) (by simp) ?_; intro cap w1 hcap hs1 hb1 hlt1 hx1; have HCAP := hide hcap; have HS1 := hide hs1; have HB1 := hide (show Below w.heap.size w w1 from ((Below.refl _ _).alloc (Nat.le_refl _) _).trans (hb1.mono (by omega))); clear hcap hs1 hb1 hlt1 hx1)
  refine (unm_bad l w.heap.size (w.heap.size + 1) cap x w1 hn HCAP.out HS1.out H0.out ((HB1.out.cell (p := ⟨1, 0, none⟩) HXL.out).trans HX.out)).mono ?_
  rintro e w2 ⟨rfl, rfl⟩
  go_wp2
  refine bodyPost_ret (results_tmp4 rfl _ _ _) rfl ?_
  exact ⟨rfl, HB1.out⟩

set_option maxRecDepth 100000 in
theorem walk (a0 : ByteArray) (w0 : a0.size ≤ maxLen) (w : World) (hE1 : ErrAt 131 1 w) :
    Calls Tryd.prog 4 #[.string a0] w fun e w' => e = .returned (.bool true) ∧ Below w.heap.size w w' := by
  obtain ⟨l, rfl⟩ := exS a0
  have hS := S_size
  have hI := S_get
  have hX := S_extract
  have HE := hide hE1
  clear hE1 w0
  by_cases hz : 2147483647 < (l.length : Int)
  · go_enter Tryd.func4, Tryd.ntmps4
    go_wp2
    go_ret
    exact ⟨rfl, Below.refl _ _⟩
  rcases last_or l with ⟨a, ha⟩ | h0
  · have HA := hide ha
    obtain ⟨ha1, ha2, ha3⟩ := ha
    have HA2 := Lib.hid ha2
    have HA3 := Lib.hid ha3
    clear ha2 ha3
    go_enter Tryd.func4, Tryd.ntmps4
    go_wp2
    go_loop [3] (fun i => ∃ k : Nat, a ≤ k ∧ k < l.length ∧ i = .int .i64 k) (fun i => (intOf i).toNat)
    case atStart => exact ⟨l.length - 1, by omega, by omega, by go_num⟩
    case round =>
      obtain ⟨k, hk1, hk2, rfl⟩ := hrel
      by_cases hlt : a < k
      · have ht : ((bat l k : Int) == 0) = true := by rw [HA3.out k hlt hk2]; rfl
        go_wp2
        go_round
        case rel => exact ⟨k - 1, by omega, by omega, by go_num⟩
        case measure => simp [intOf]; omega
      · obtain rfl : k = a := by omega
        have ht : ((bat l k : Int) == 0) = false := by have := HA2.out; simp; omega
        go_wp2_with fail
        refine (read_ok l k w (by omega) HA.out).mono ?_
        rintro e w1 ⟨rfl, hb1⟩
        have HB := hide hb1
        clear hb1
        go_wp2
        go_ret
        exact ⟨ret_bool (by simp), HB.out⟩
  · have H0 := hide h0
    clear h0
    go_enter Tryd.func4, Tryd.ntmps4
    go_wp2
    go_loop [3] (fun i => ∃ k : Nat, k ≤ l.length ∧ i = .int .i64 ((k : Int) - 1)) (fun i => (intOf i + 1).toNat)
    case atStart => exact ⟨l.length, by omega, rfl⟩
    case round =>
      obtain ⟨k, hk, rfl⟩ := hrel
      by_cases hlt : 0 < k
      · obtain ⟨j, rfl⟩ : ∃ j, k = j + 1 := ⟨k - 1, by omega⟩
        have e1 : ((j + 1 : Nat) : Int) - 1 = (j : Int) := by omega
        rw [e1]
        clear e1
        have ht : ((bat l j : Int) == 0) = true := by rw [H0.out j (by omega)]; rfl
        go_wp2
        go_round
        case rel => exact ⟨j, by omega, rfl⟩
        case measure => simp [intOf]
      · obtain rfl : k = 0 := by omega
        go_wp2_with fail
        refine (read_bad l w (by omega) H0.out HE.out).mono ?_
        rintro e w1 ⟨rfl, hb1⟩
        go_wp2
        go_ret
        exact ⟨rfl, hb1⟩
abbrev laidL : List (String × DataW Unit) := [("pub-convoy/pub/dtls/pkg/protocol/recordlayer.errBufferTooSmall", Rows.laid_pub_convoy_pub_dtls_pkg_protocol_recordlayer_errBufferTooSmall)]
theorem door_met (os : Os) (args : Array Value) : laidMetH Tryd.prog laidL ((World.doorLaid Tryd.prog 147 os).forCall (fun _ _ => 0) ⟨#[], args, []⟩).memory :=
  laidMetH_of_parts3 (fuel := 8) (laidMet_of_run' 8 (by kernel_rfl) (by kernel_rfl)) (by kernel_rfl) (by kernel_rfl)
theorem of_laid {W : World} (h : laidMetH Tryd.prog laidL W) : ErrAt 131 1 W := by
  rw [MakeChecks.laidMetH_plain _ _ _ (by kernel_rfl)] at h
  have k0 := errAt_of_laid h (show Tryd.prog.globalNamed "pub-convoy/pub/dtls/pkg/protocol/recordlayer.errBufferTooSmall" = some 1 by kernel_rfl) (by kernel_rfl)
  exact k0
set_option maxRecDepth 100000 in
theorem lifted (os : Os) (started : os.Started) (H : Type) (enc : TypeId × Value → H) :
    ReturnsInHanded {} Tryd.checked os 4 .any (fun w args => (Rows.fnInnerReadSpec.pre enc Tryd.prog Tryd.f4 [] false w args ∧ laidMetH Tryd.prog laidL w) ∧ sizedMet enc Tryd.prog Tryd.f4 (OpenSpec.ofChange Rows.fnInnerReadSpec) false w args)
      (Rows.fnInnerReadSpec.post enc Tryd.prog Tryd.f4 false true false false) := by
  refine returnsInHanded_of_change_and (C := Tryd.checked) (X := fun w _ => laidMetH Tryd.prog laidL w) (fun _ _ _ hh h => h.of_heap hh) own started (by kernel_rfl) Tryd.func4
    (ChangeSpec.witness_shaped (enc := enc) (C := Tryd.checked) (os := os) (X := fun w _ => laidMetH Tryd.prog laidL w) false (World.doorLaid Tryd.prog 147 os) #[.string ByteArray.empty] 8 rfl (World.shaped_of_RefB (by kernel_rfl) (by kernel_rfl)) (by kernel_rfl) (by kernel_rfl) (by kernel_rfl) (door_met os _)) ?_
  intro W base args ds gs before hval0 hW _ _ hL _
  have hE1 := of_laid hL
  have hval : ∀ (j : Nat) t v, Tryd.f4.params[j]? = some t → args[j]? = some v → Value.okWide Tryd.prog W .any base t v := hval0
  have hW' := hW
  obtain ⟨p, q, hA0, hV, rfl, hfz, hnd⟩ := hW
  have hA : DataW.TrodAll enc Tryd.prog W 0 (fun _ => true) true Tryd.f4.params.toList args.toList ds p := hA0
  rw [Tryd.params4] at hA hval
  obtain ⟨v0, vs0, d0, ds0, p0, q0, hargs, rfl, rfl, h0, r0⟩ := trodAll_cons hA
  obtain ⟨rfl, rfl, rfl⟩ := trodAll_nil r0
  obtain rfl : args = #[v0] := by cases args; simp_all
  obtain ⟨rfl, rfl⟩ := trodVars_none hV
  obtain ⟨a0, rfl, rfl, rfl, w0⟩ := open_string Tryd.underlying9 (hval 0 9 v0 rfl rfl) h0
  clear hA0 hval0
  refine (walk a0 w0 W hE1).mono fun e W' ⟨he, hb⟩ => ?_
  subst he
  exact ⟨_, rfl, law_post laidOut (by kernel_rfl) rfl Tryd.underlying4 rfl hW' rfl rfl rfl hb⟩

theorem over : Rows.fnInnerReadRow.holds Tryd.pinned (OpenSpec.ofChange Rows.fnInnerReadSpec) :=
  OpenClaim.holds_of_wide 4 Tryd.f4 rfl rfl rfl rfl rfl rfl rfl ⟨rfl, rfl, rfl, rfl, rfl⟩ rfl rfl rfl rfl rfl (by kernel_rfl) Tryd.func4 (by kernel_rfl)
    (of_decide_eq_true (by kernel_rfl)) (by unfold Func.isWrapper; first | (rw [if_pos (by decide +kernel)]; kernel_rfl) | (rw [if_neg (by decide +kernel)]; exact ⟨rfl, rfl⟩))
    (fun os started H enc _ => lifted os started H enc)

/-- THE STATEMENT: the tied card. -/
theorem proved : Rows.FnInnerReadCardSaid :=
  Claim7.holds_tied_plain_at .later [] [.sentinel] true (true, "312c705599dff8e1b66b31ff244df6cdee9f20dfac1ec51796f1c787a488a9af") false
    over (fun _ h => by cases h) (by kernel_rfl) (fun _ h => by cases h) fnInnerRead_row_tie rfl ⟨rfl, rfl⟩ (by kernel_rfl) rfl
    (fun f fn hf hfn => by
      obtain rfl : f = 4 := Option.some.inj ((show Tryd.prog.funcNamed "pub-convoy/laws.FnInnerRead" = some 4 by kernel_rfl).symm.trans hf) |>.symm
      obtain rfl : fn = Tryd.f4 := (Option.some.inj (Tryd.func4.symm.trans hfn)).symm
      exact ⟨by kernel_rfl, fun j t ht => by
        rw [Tryd.params4] at ht
        have hm : t ∈ [9] := by simpa using Array.mem_of_getElem? ht
        have hall : ([9].all fun u => !Tryd.prog.wantsStandIn u) = true := by kernel_rfl
        exact (show Tryd.prog.wantsStandIn t = false by simpa using List.all_eq_true.1 hall t hm)⟩)
    (by kernel_rfl)
#print axioms proved

end Go.Proofs.YtlofkkmonkdjjaaDoor.fnInnerRead
