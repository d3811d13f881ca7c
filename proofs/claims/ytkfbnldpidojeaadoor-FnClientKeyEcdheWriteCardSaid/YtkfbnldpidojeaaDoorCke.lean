/- FnClientKeyEcdheWrite: for every public key the law returns true. -/
import Derived.Test.YtkfbnldpidojeaaDoorDoor
import Derived.Test.YtkfbnldpidojeaaDoorSame
import Derived.Test.YtkfbnldpidojeaaDoorAppendStr
import Derived.StillTailTactics
import Derived.Deep.RegionHeld3
import Derived.Deep.RegionWith
namespace Go.Proofs.YtkfbnldpidojeaaDoor.fnClientKeyEcdheWrite
open Go.ChangeShapes Go.WideShapes Go.ChangeAt Go.RowKit Go.Proofs.YtkfbnldpidojeaaDoor
open Go.ChangeMaps (open_string shut_string)
set_option linter.unusedVariables false

theorem keep_cells3 {w w' : World} {a b c : Addr} {x y z : Value} (hb : Below w.heap.size w w') (h : w.cell? a = some x ∧ w.cell? b = some y ∧ w.cell? c = some z) : w'.cell? a = some x ∧ w'.cell? b = some y ∧ w'.cell? c = some z :=
  ⟨keep_cell hb h.1, keep_cell hb h.2.1, keep_cell hb h.2.2⟩
theorem has_any (a b : Int) (w : World) : Calls Tryd.prog 107 #[.int .i64 a, .int .i64 b] w fun e w' => e = .returned (.bool (bits .and .i64 a b == b)) ∧ w = w' := by
  go_enter Tryd.func107, Tryd.ntmps107
  go_wp2
  go_ret
  exact ⟨rfl, rfl⟩
set_option maxRecDepth 100000 in
theorem some_true (l : List UInt8) (w : World) (hl0 : 0 < l.length) (hl : l.length ≤ 2147483647) : Calls Tryd.prog 83 #[.bool true, .string (S l)] w fun e w' => ∃ g c, e = .returned (.slice (some ⟨g, 0, none⟩) l.length c) ∧ w'.ownsRow w.heap.size 5 1 (.slice (some ⟨g, 0, none⟩) l.length c) l.length (cells8 l) ∧ l.length ≤ c ∧ Below w.heap.size w w' := by
  go_enter Tryd.func83, Tryd.ntmps83
  have hown : (w.alloc (.cells (#[] : Array Value) 5)).ownsRow w.heap.size 5 1 (.slice (some ⟨w.heap.size, 0, none⟩) 0 0) 0 [] :=
    (Blk.new w 5 []).to_own (rest := []) (Nat.le_refl _) rfl rfl (by decide)
  have HO := Lib.hid hown
  clear hown
  go_wp2_with (at_builtin; refine wpList_append_str el8 Tryd.underlying9 rfl _ _ rfl rfl HO.out rfl (by omega) (by unfold maxLen; omega) (by simp) ?_; intro v4 w4 hown4 hg4 hb4 hat4)
  have HO4 := Lib.hid hown4
  have HB4 := Lib.hid (((Below.refl _ _).alloc (Nat.le_refl _) _).trans hb4)
  clear hown4 hb4 hg4 hat4
  go_wp2
  go_ret
  have h := HO4.out
  rw [Nat.zero_add, List.nil_append] at h
  obtain ⟨g, c, rfl, hc, _⟩ := own_form h hl0
  exact ⟨g, c, rfl, h, hc, HB4.out⟩
theorem some_false (s : ByteArray) (w : World) : Calls Tryd.prog 83 #[.bool false, .string s] w fun e w' => e = .returned (.slice none 0 0) ∧ w = w' := by
  go_enter Tryd.func83, Tryd.ntmps83
  go_wp2
  go_ret
  exact ⟨rfl, rfl⟩
theorem psk4 (w : World) : Calls Tryd.prog 84 #[.int .i64 4] w fun e w' => e = .returned (.bool false) ∧ w = w' := by
  go_enter Tryd.func84, Tryd.ntmps84
  go_wp2_with fail
  refine (has_any 4 2 w).mono ?_
  rintro e w1 ⟨rfl, rfl⟩
  go_wp2
  go_ret
  exact ⟨by rfl, rfl⟩
theorem ecdhe4 (w : World) : Calls Tryd.prog 85 #[.int .i64 4] w fun e w' => e = .returned (.bool true) ∧ w = w' := by
  go_enter Tryd.func85, Tryd.ntmps85
  go_wp2_with fail
  refine (has_any 4 4 w).mono ?_
  rintro e w1 ⟨rfl, rfl⟩
  go_wp2
  go_ret
  exact ⟨by rfl, rfl⟩

/-- impl.Message as a value: the type, the kind of exchange, a hint and a key; else zero. -/
abbrev msgA (t kx : Int) (hint pub : ByteArray) : Array Value := #[.int .u8 t, .bool false, .int .u8 0, .int .u8 0, .int .u32 0, .string ⟨#[]⟩, .string ⟨#[]⟩, .string ⟨#[]⟩, .slice none 0 0, .slice none 0 0, .slice none 0 0, .slice none 0 0, .slice none 0 0, .slice none 0 0, .int .u16 0, .int .u16 0, .string ⟨#[]⟩, .string hint, .string pub, .int .i64 kx, .int .u8 0, .int .u16 0, .string ⟨#[]⟩, .string ⟨#[]⟩, .slice none 0 0]
set_option maxRecDepth 100000 in
set_option maxHeartbeats 1000000 in
theorem make_any (l : List UInt8) (w : World) (hl0 : 0 < l.length) (hl : l.length ≤ 2147483647) :
    Calls Tryd.prog 46 #[.agg (msgA 16 4 ⟨#[]⟩ (S l))] w fun e w' => ∃ g b c, e = .returned (.pointer (some ⟨g, 0, none⟩)) ∧ Blk w' g 149 [.slice none 0 0, .slice (some ⟨b, 0, none⟩) l.length c, .int .i64 4] ∧ Sl w' (some ⟨b, 0, none⟩) (cells8 l) ∧ Below w.heap.size w w' := by
  go_enter Tryd.func46, Tryd.ntmps46
  go_wp2
  go_region_held3 (fun w' => w'.cell? ⟨w.heap.size, 17, none⟩ = some (.string ⟨#[]⟩) ∧ w'.cell? ⟨w.heap.size, 18, none⟩ = some (.string (S l)) ∧ w'.cell? ⟨w.heap.size, 19, none⟩ = some (.int .i64 4)) (first | go_keep | exact keep_cells3 hb4 (by assumption)) (first | (go_at_call 84; refine (psk4 _).mono ?_; rintro e w' ⟨rfl, rfl⟩) | (go_at_call 85; refine (ecdhe4 _).mono ?_; rintro e w' ⟨rfl, rfl⟩) | (go_at_call_of 83 (Value.bool false); refine (some_false _ _).mono ?_; rintro e w' ⟨rfl, rfl⟩) | (go_at_call_of 83 (Value.bool true); refine (some_true l _ hl0 hl).mono ?_; rintro e w4 ⟨b4, c4, rfl, ho4, hc4, hb4⟩))
  have HS := Lib.hid (Sl.of_own ho4)
  have HB := Lib.hid (show Below w.heap.size w w4 from ((Below.refl _ _).alloc (Nat.le_refl _) _).drew.trans (hb4.mono (by simp)))
  clear ho4 hb4
  go_wp2
  go_ret
  exact ⟨_, b4, c4, rfl, Blk.new w4 _ _, HS.out.below ((Below.refl _ _).alloc (Nat.le_refl _) _), HB.out.alloc HB.out.size _⟩

set_option maxRecDepth 100000 in
theorem marshal (l : List UInt8) (g b c : Nat) (w : World) (hl0 : 0 < l.length) (hl : l.length ≤ 255) (hk : Blk w g 149 [.slice none 0 0, .slice (some ⟨b, 0, none⟩) l.length c, .int .i64 4]) (hs : Sl w (some ⟨b, 0, none⟩) (cells8 l)) :
    Calls Tryd.prog 47 #[.pointer (some ⟨g, 0, none⟩)] w fun e w' => ∃ h c', e = .returned (.tuple #[.slice (some ⟨h, 0, none⟩) (1 + l.length) c', .nilIface]) ∧ Sl w' (some ⟨h, 0, none⟩) (cells8 (vecL l 1)) ∧ Below w.heap.size w w' := by
  have HS := Lib.hid hs
  have hc0 := hk.cell 0
  have hc1 := hk.cell 1
  clear hk hs
  simp only [List.getElem?_cons_zero, List.getElem?_cons_succ] at hc0 hc1
  go_enter Tryd.func47, Tryd.ntmps47
  have hq1 := fun W : World => eql_nil none 0 0 W
  have hq2 := fun W : World => neq_nil none 0 0 W
  have hq3 := fun W : World => neq_nil (some ⟨b, 0, none⟩) l.length c W
  have hq4 := fun W : World => eql_nil (some ⟨b, 0, none⟩) l.length c W
  have hw : IntKind.u8.wrap (l.length : Int) = l.length := by rw [IntKind.wrap_u8]; omega
  simp only [Option.isNone_none, Option.isNone_some, Bool.not_true, Bool.not_false] at hq1 hq2 hq3 hq4
  have hgl : g < w.heap.size := World.block_lt_of_cell? w _ hc0
  go_wp2_with (first | (at_builtin; refine wpList_append_lit (w0 := w) el8 rfl _ _ rfl rfl (World.ownsRow_nil w w.heap.size _ 1) rfl rfl (by simp [Value.oneCell']) (by omega) (by unfold maxLen; omega) (Nat.le_refl _) ?_; intro v4 w4 hown4 hb4 hat4; have hd1 := keep_cell hb4 hc1; have HO4 := Lib.hid hown4; have HB4 := Lib.hid hb4; have HS4 := Lib.hid (HS.out.below hb4); clear hown4 hb4 hat4) | (at_builtin; refine wpList_append el8 rfl _ _ rfl rfl HO4.out rfl (by simp [cells8_length]) HS4.out (cells8_one l) (by omega) (by unfold maxLen; omega) HB4.out.size ?_; intro v5 w5 hown5 hg5 hb5 hat5; have HO5 := Lib.hid hown5; have HB5 := Lib.hid (HB4.out.trans hb5); clear hown5 hg5 hb5 hat5))
  go_ret2
  obtain ⟨g5, c5, rfl, hc5, _⟩ := own_form HO5.out (by omega)
  refine ⟨g5, ⟨c5, rfl⟩, ?_, HB5.out⟩
  have hv : cells8 (vecL l 1) = ([] ++ [Value.int .u8 (l.length : Int)]) ++ cells8 l := by
    rw [vecL, cells8_append]
    congr 1
    simp [bigL, cells8, UInt8.toNat_ofNat']
    omega
  rw [hv]
  exact Sl.of_own HO5.out

set_option maxRecDepth 100000 in
theorem write_ok (l : List UInt8) (w : World) (hl0 : 0 < l.length) (hl : l.length ≤ 255) :
    Calls Tryd.prog 15 #[.agg (msgA 16 4 ⟨#[]⟩ (S l))] w fun e w' => e = .returned (.tuple #[.string (S (vecL l 1)), .bool true]) ∧ Below w.heap.size w w' := by
  go_enter Tryd.func15, Tryd.ntmps15
  have hblk := Lib.hid (Blk.new w 33 (msgA 16 4 ⟨#[]⟩ (S l)).toList)
  go_wp2_with (refine wpList_load_mid rfl _ (.tmp 1) rfl _ _ rfl (msgA 16 4 ⟨#[]⟩ (S l)).toList _ hblk.out.rangeAt Tryd.underlying33 rfl (by kernel_rfl) ?_)
  refine (make_any l _ hl0 (by omega)).mono ?_
  rintro e w1 ⟨g, b, c, rfl, hk1, hs1, hb1⟩
  have HK1 := Lib.hid hk1
  have HS1 := Lib.hid hs1
  have HB1 := Lib.hid (show Below w.heap.size w w1 from ((Below.refl _ _).alloc (Nat.le_refl _) _).trans (hb1.mono (by simp)))
  clear hk1 hs1 hb1
  go_wp2_with fail
  refine (marshal l g b c w1 hl0 hl HK1.out HS1.out).mono ?_
  rintro e w2 ⟨h, c2, rfl, hs2, hb2⟩
  have HS2 := Lib.hid hs2
  have HB2 := Lib.hid (HB1.out.trans (hb2.mono HB1.out.size))
  clear hs2 hb2
  go_wp2_with fail
  refine (text_ok (some ⟨h, 0, none⟩) c2 (1 + l.length) (vecL l 1) w2 (by simp [vecL, bigL_length]) HS2.out).mono ?_
  rintro e w3 ⟨rfl, rfl⟩
  go_wp2
  go_ret2
  exact ⟨rfl, HB2.out⟩

set_option maxRecDepth 100000 in
theorem walk (a0 : ByteArray) (w0 : a0.size ≤ maxLen) (w : World)  (hE0 : ErrAt 192 0 w) (hE2 : ErrAt 192 2 w) :
    Calls Tryd.prog 3 #[.string a0] w fun e w' => e = .returned (.bool true) ∧ Below w.heap.size w w' := by
  obtain ⟨l, rfl⟩ := exS a0
  have hS := S_size
  clear w0 hE0 hE2
  by_cases hz : 2147483647 < (l.length : Int)
  · go_enter Tryd.func3, Tryd.ntmps3
    go_wp2
    go_ret
    exact ⟨rfl, Below.refl _ _⟩
  by_cases h0 : (0 : Int) < (l.length : Int)
  · by_cases h1 : (l.length : Int) < 256
    · go_enter Tryd.func3, Tryd.ntmps3
      go_wp2_with fail
      refine (write_ok l w (by omega) (by omega)).mono ?_
      rintro e w1 ⟨rfl, hb1⟩
      have HB1 := Lib.hid hb1
      clear hb1
      go_wp2_with fail
      refine (vec_any l 1 w1 (by omega) (by omega) (by omega)).mono ?_
      rintro e w2 ⟨rfl, hb2⟩
      have HB2 := Lib.hid (HB1.out.trans (hb2.mono HB1.out.size))
      clear hb2
      go_wp2
      go_ret
      exact ⟨ret_bool (by simp), HB2.out⟩
    · go_enter Tryd.func3, Tryd.ntmps3
      go_wp2
      go_ret
      exact ⟨rfl, Below.refl _ _⟩
  · go_enter Tryd.func3, Tryd.ntmps3
    go_wp2
    go_ret
    exact ⟨rfl, Below.refl _ _⟩
abbrev laidL : List (String × DataW Unit) := [("pub-convoy/pub/dtls/pkg/protocol/handshake.errInvalidClientKeyExchange", Rows.laid_pub_convoy_pub_dtls_pkg_protocol_handshake_errInvalidClientKeyExchange), ("pub-convoy/pub/dtls/pkg/protocol/handshake.errPublicKeyTooLong", Rows.laid_pub_convoy_pub_dtls_pkg_protocol_handshake_errPublicKeyTooLong)]
theorem door_met (os : Os) (args : Array Value) : laidMetH Tryd.prog laidL ((World.doorLaid Tryd.prog 342 os).forCall (fun _ _ => 0) ⟨#[], args, []⟩).memory :=
  laidMetH_of_parts3 (fuel := 8) (laidMet_of_run' 8 (by kernel_rfl) (by kernel_rfl)) (by kernel_rfl) (by kernel_rfl)
theorem of_laid {W : World} (h : laidMetH Tryd.prog laidL W) : ErrAt 192 0 W ∧ ErrAt 192 2 W := by
  rw [MakeChecks.laidMetH_plain _ _ _ (by kernel_rfl)] at h
  have k0 := errAt_of_laid h (show Tryd.prog.globalNamed "pub-convoy/pub/dtls/pkg/protocol/handshake.errInvalidClientKeyExchange" = some 0 by kernel_rfl) (by kernel_rfl)
  have h1 := h.tail
  have k1 := errAt_of_laid h1 (show Tryd.prog.globalNamed "pub-convoy/pub/dtls/pkg/protocol/handshake.errPublicKeyTooLong" = some 2 by kernel_rfl) (by kernel_rfl)
  exact ⟨k0, k1⟩
set_option maxRecDepth 100000 in
theorem lifted (os : Os) (started : os.Started) (H : Type) (enc : TypeId × Value → H) :
    ReturnsInHanded {} Tryd.checked os 3 .any (fun w args => (Rows.fnClientKeyEcdheWriteSpec.pre enc Tryd.prog Tryd.f3 [] false w args ∧ laidMetH Tryd.prog laidL w) ∧ sizedMet enc Tryd.prog Tryd.f3 (OpenSpec.ofChange Rows.fnClientKeyEcdheWriteSpec) false w args)
      (Rows.fnClientKeyEcdheWriteSpec.post enc Tryd.prog Tryd.f3 false true false false) := by
  refine returnsInHanded_of_change_and (C := Tryd.checked) (X := fun w _ => laidMetH Tryd.prog laidL w) (fun _ _ _ hh h => h.of_heap hh) own started (by kernel_rfl) Tryd.func3
    (ChangeSpec.witness_shaped (enc := enc) (C := Tryd.checked) (os := os) (X := fun w _ => laidMetH Tryd.prog laidL w) false (World.doorLaid Tryd.prog 342 os) #[.string ByteArray.empty] 8 rfl (World.shaped_of_RefB (by kernel_rfl) (by kernel_rfl)) (by kernel_rfl) (by kernel_rfl) (by kernel_rfl) (door_met os _)) ?_
  intro W base args ds gs before hval0 hW _ _ hL _
  obtain ⟨hE0, hE2⟩ := of_laid hL
  have hval : ∀ (j : Nat) t v, Tryd.f3.params[j]? = some t → args[j]? = some v → Value.okWide Tryd.prog W .any base t v := hval0
  have hW' := hW
  obtain ⟨p, q, hA0, hV, rfl, hfz, hnd⟩ := hW
  have hA : DataW.TrodAll enc Tryd.prog W 0 (fun _ => true) true Tryd.f3.params.toList args.toList ds p := hA0
  rw [Tryd.params3] at hA hval
  obtain ⟨v0, vs0, d0, ds0, p0, q0, hargs, rfl, rfl, h0, r0⟩ := trodAll_cons hA
  obtain ⟨rfl, rfl, rfl⟩ := trodAll_nil r0
  obtain rfl : args = #[v0] := by cases args; simp_all
  obtain ⟨rfl, rfl⟩ := trodVars_none hV
  obtain ⟨a0, rfl, rfl, rfl, w0⟩ := open_string Tryd.underlying9 (hval 0 9 v0 rfl rfl) h0
  clear hA0 hval0
  refine (walk a0 w0 W hE0 hE2).mono fun e W' ⟨he, hb⟩ => ?_
  subst he
  exact ⟨_, rfl, law_post laidOut (by kernel_rfl) rfl Tryd.underlying4 rfl hW' rfl rfl rfl hb⟩

theorem over : Rows.fnClientKeyEcdheWriteRow.holds Tryd.pinned (OpenSpec.ofChange Rows.fnClientKeyEcdheWriteSpec) :=
  OpenClaim.holds_of_wide 3 Tryd.f3 rfl rfl rfl rfl rfl rfl rfl ⟨rfl, rfl, rfl, rfl, rfl⟩ rfl rfl rfl rfl rfl (by kernel_rfl) Tryd.func3 (by kernel_rfl)
    (of_decide_eq_true (by kernel_rfl)) (by unfold Func.isWrapper; first | (rw [if_pos (by decide +kernel)]; kernel_rfl) | (rw [if_neg (by decide +kernel)]; exact ⟨rfl, rfl⟩))
    (fun os started H enc _ => lifted os started H enc)

/-- THE STATEMENT: the tied card. -/
theorem proved : Rows.FnClientKeyEcdheWriteCardSaid :=
  Claim7.holds_tied_plain_at .later [] [.sentinel, .sentinel] true (true, "dbcc22dd92c0e3c42d89f92366a0b0c5b44486c43064837111ff93de06a332f3") false
    over (fun _ h => by cases h) (by kernel_rfl) (fun _ h => by cases h) fnClientKeyEcdheWrite_row_tie rfl ⟨rfl, rfl⟩ (by kernel_rfl) rfl
    (fun f fn hf hfn => by
      obtain rfl : f = 3 := Option.some.inj ((show Tryd.prog.funcNamed "pub-convoy/laws.FnClientKeyEcdheWrite" = some 3 by kernel_rfl).symm.trans hf) |>.symm
      obtain rfl : fn = Tryd.f3 := (Option.some.inj (Tryd.func3.symm.trans hfn)).symm
      exact ⟨by kernel_rfl, fun j t ht => by
        rw [Tryd.params3] at ht
        have hm : t ∈ [9] := by simpa using Array.mem_of_getElem? ht
        have hall : ([9].all fun u => !Tryd.prog.wantsStandIn u) = true := by kernel_rfl
        exact (show Tryd.prog.wantsStandIn t = false by simpa using List.all_eq_true.1 hall t hm)⟩)
    (by kernel_rfl)
#print axioms proved

end Go.Proofs.YtkfbnldpidojeaaDoor.fnClientKeyEcdheWrite
