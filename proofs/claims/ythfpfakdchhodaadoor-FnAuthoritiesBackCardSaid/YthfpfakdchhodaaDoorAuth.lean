/- FnAuthoritiesBack: for every list of authorities the law returns true. -/
import Derived.Test.YthfpfakdchhodaaDoorDoor
import Derived.Test.YthfpfakdchhodaaDoorStr
import Derived.Test.YthfpfakdchhodaaDoorListS
import Derived.Test.YthfpfakdchhodaaDoorStrs
import Derived.Test.YthfpfakdchhodaaDoorPut
namespace Go.Proofs.YthfpfakdchhodaaDoor.fnAuthoritiesBack
open Go.ChangeShapes Go.WideShapes Go.ChangeAt Go.RowKit Go.Proofs.YthfpfakdchhodaaDoor
set_option linter.unusedVariables false

theorem type_any (x : Value) (w : World) : Calls Tryd.prog 99 #[.agg #[x]] w fun e w' => e = .returned (.int .u16 47) ∧ w.alloc (.cells #[x] 123) = w' := by
  go_enter Tryd.func99, Tryd.ntmps99
  go_wp2
  go_ret
  exact ⟨rfl, rfl⟩
theorem weight_32 (L : List (List UInt8)) : weight 2 L + L.length ≤ weight 3 L := by
  induction L with
  | nil => simp [weight]
  | cons x L ih => simp only [weight, List.map_cons, List.sum_cons, List.length_cons] at ih ⊢; omega
theorem weight_len (L : List (List UInt8)) : L.length ≤ weight 2 L := by
  induction L with
  | nil => simp [weight]
  | cons x L ih => simp only [weight, List.map_cons, List.sum_cons, List.length_cons] at ih ⊢; omega
theorem elStr : Elem Tryd.prog 33 9 1 16 := Elem.of Tryd.underlying33 (z := .string ⟨#[]⟩) (by kernel_rfl) rfl (by decide)
section
variable {P : Program}
theorem step_append {ops : Array Oper} {o : Oper} {a : Act} {w : World} {K : Act → World → Prop} {Q : Exit → Act → World → Prop} {E : Prop} {t e : TypeId} {size bytes base : Nat} (el : Elem P t e size bytes) (hgd : o.guard = none) (s x : Operand)
    (ho : o.op = .call { callee := .builtin .append, args := #[s, x], argTypes := #[t, t] })
    {v : Value} {n : Nat} {xs : List Value} (hs : a.eval s = v) (hown : w.ownsRow base e size v n xs)
    {A : Option Addr} {m c : Nat} {news : List Value} (hx : a.eval x = .slice A m c) (hl : news.length = m * size) (hr : Sl w A news) (h1 : ∀ u ∈ news, u.oneCell' = true)
    (hn : (n + m) * bytes ≤ 140737488355328) (h63 : n + m ≤ maxLen) (hbase : base ≤ w.heap.size)
    (h : ∀ v' w', w'.ownsRow base e size v' (n + m) (xs ++ news) → w.grownBy w' v.ownBlock → Below base w w' → K (a.put o.dst v') w') : if Region.wanted o (yielded ops a.tmps) = true then Oper.wp P o a w K Q else E := by
  have hw : Region.wanted o (yielded ops a.tmps) = true := by simp [Region.wanted, hgd]
  rw [if_pos hw]
  obtain ⟨v', w', hrun, h2, h3, h4⟩ := run_append_sl (ty := o.type) el hown hl hr h1 hn h63 hbase (c := c)
  unfold Oper.wp execOp
  simp only [ho, resolve, invoke, builtin, Sem.run_bind, Sem.run_pure, Result.andThen_ok, List.map_toArray, List.map_cons, List.map_nil, hs, hx, hrun]
  exact h v' w' h2 h3 (own_below hown h3 hbase)
end
theorem own_mono {w : World} {base base' n size : Nat} {e : TypeId} {v : Value} {xs : List Value} (h : w.ownsRow base' e size v n xs) (hb : base ≤ base') : w.ownsRow base e size v n xs := by
  obtain ⟨h1, h2⟩ := h
  refine ⟨h1, ?_⟩
  rcases h2 with ⟨a, b⟩ | ⟨g, cap, cur, a, b, c, d⟩
  · exact .inl ⟨a, b⟩
  · exact .inr ⟨g, cap, cur, a, by omega, c, d⟩
theorem own_chg {w w' : World} {base n size : Nat} {e : TypeId} {v : Value} {xs : List Value} {ps : List Nat} {o : Obj} (h : w.ownsRow base e size v n xs) (hc : Chg ps (w.alloc o) w') (hp : ∀ g, v.ownBlock = some g → g ∉ ps) : w'.ownsRow base e size v n xs := by
  obtain ⟨h1, h2⟩ := h
  refine ⟨h1, ?_⟩
  rcases h2 with ⟨a, b⟩ | ⟨g, cap, cur, a, b, c, d⟩
  · exact .inl ⟨a, b⟩
  · subst a
    have hl : g < w.heap.size := (Array.getElem?_eq_some_iff.1 c).1
    exact .inr ⟨g, cap, cur, rfl, b, (hc.block g (by simp; omega) (hp g rfl)).trans ((Below.heap_alloc w o g hl).trans c), d⟩
/-- How many bytes the string in block p has. -/
def strLen (w : World) (p : Nat) : Nat := match w.cell? ⟨p, 0, none⟩ with | some (.slice _ n _) => n | _ => 0
theorem _root_.Go.Proofs.YthfpfakdchhodaaDoor.Str.len {w : World} {p b : Nat} {l : List UInt8} (h : Str w p b l) : strLen w p = l.length := by
  obtain ⟨t, off, cap, h1, _⟩ := h
  have c : w.cell? ⟨p, 0, none⟩ = some (.slice (some ⟨b, off, none⟩) l.length cap) := h1.cell 0
  unfold strLen
  rw [c]
theorem elBs : Elem Tryd.prog 121 48 1 24 := Elem.of Tryd.underlying121 (z := Value.slice none 0 0) (by kernel_rfl) rfl (by decide)
theorem _root_.Go.Proofs.YthfpfakdchhodaaDoor.Sl.back {w w' : World} {base B off : Nat} {xs : List Value} (h : Sl w' (some ⟨B, off, none⟩) xs) (hb : Below base w w') (hB : B < base) : Sl w (some ⟨B, off, none⟩) xs := fun k v hk => by
  obtain ⟨b, o, e, hc⟩ := h k v hk
  cases e
  exact ⟨_, _, rfl, (hb.cell (p := ⟨B, off + k, none⟩) hB).symm.trans hc⟩
/-- The slices vs, of block B, hold the texts L. -/
def Parts (w : World) (B : Nat) (L : List (List UInt8)) (vs : List Value) : Prop := vs.length = L.length ∧ ∀ (k : Nat) (x : List UInt8), L[k]? = some x → ∃ off cap, vs[k]? = some (Value.slice (some ⟨B, off, none⟩) x.length cap) ∧ Sl w (some ⟨B, off, none⟩) (cells8 x)
theorem Parts.nil (w : World) (B : Nat) : Parts w B (([] : List (List UInt8))) [] := ⟨rfl, fun k x h => by cases h⟩
theorem Parts.snoc {w : World} {B : Nat} {L : List (List UInt8)} {vs : List Value} (h : Parts w B L vs) (x : List UInt8) (off cap : Nat) (hs : Sl w (some ⟨B, off, none⟩) (cells8 x)) : Parts w B (L ++ [x]) (vs ++ [.slice (some ⟨B, off, none⟩) x.length cap]) := by
  refine ⟨by simp [h.1], fun k y hy => ?_⟩
  by_cases hk : k < L.length
  · rw [List.getElem?_append_left hk] at hy
    obtain ⟨o, c, h1, h2⟩ := h.2 k y hy
    exact ⟨o, c, by rw [List.getElem?_append_left (by rw [h.1]; exact hk)]; exact h1, h2⟩
  · rw [List.getElem?_append_right (by omega)] at hy
    have h0 : k - L.length = 0 := by
      have := (List.getElem?_eq_some_iff.1 hy).1
      simp at this
      omega
    rw [h0] at hy
    injection hy with hy
    subst hy
    exact ⟨off, cap, by rw [List.getElem?_append_right (by rw [h.1]; omega), h.1, h0]; rfl, hs⟩
theorem Parts.below {w w' : World} {B : Nat} {L : List (List UInt8)} {vs : List Value} (h : Parts w B L vs) (hb : Below w.heap.size w w') : Parts w' B L vs :=
  ⟨h.1, fun k x hx => by obtain ⟨o, c, h1, h2⟩ := h.2 k x hx; exact ⟨o, c, h1, h2.below hb⟩⟩
theorem _root_.Go.Proofs.YthfpfakdchhodaaDoor.Sl.at_ {w : World} {B off : Nat} {xs : List Value} (h : Sl w (some ⟨B, off, none⟩) xs) : ∀ j v, xs[j]? = some v → w.cell? ((⟨B, off, none⟩ : Addr).add j) = some v := fun j v hj => by
  obtain ⟨b, o, e, hc⟩ := h j v hj
  cases e
  have hadd : (⟨B, off, none⟩ : Addr).add j = ⟨B, off + j, none⟩ := by unfold Addr.add; split <;> simp_all
  rw [hadd]; exact hc
theorem Parts.one {w : World} {B : Nat} {L : List (List UInt8)} {vs : List Value} (h : Parts w B L vs) : ∀ v ∈ vs, v.oneCell' = true := by
  intro v hv
  obtain ⟨k, hk, e⟩ := List.mem_iff_getElem.1 hv
  obtain ⟨o, c, h1, _⟩ := h.2 k (L[k]'(by rw [← h.1]; exact hk)) (List.getElem?_eq_getElem (by rw [← h.1]; exact hk))
  rw [List.getElem?_eq_getElem hk, e] at h1
  injection h1 with h1
  subst h1
  rfl
theorem Parts.only {w w' : World} {B b : Nat} {L : List (List UInt8)} {vs : List Value} (h : Parts w B L vs) (hk : w.grownBy w' (some b)) (hne : B ≠ b) : Parts w' B L vs :=
  ⟨h.1, fun k x hx => by obtain ⟨o, c, h1, h2⟩ := h.2 k x hx; exact ⟨o, c, h1, h2.only hk (fun b' o' e => by cases e; exact hne)⟩⟩
/-- The extension's bytes. -/
def wire (L : List (List UInt8)) : List UInt8 := extL 47 (vecL (textsL 2 L) 2)
set_option maxHeartbeats 2000000 in
set_option maxRecDepth 100000 in
theorem unm_ok (l T : List UInt8) (L : List (List UInt8)) (b B cap : Nat) (w : World) (hT : T = textsL 2 L) (hl : l = extL 47 (vecL T 2)) (hT0 : 0 < T.length) (hn0 : 0 < L.length) (hT1 : T.length < 65000) (hL : ∀ x ∈ L, 1 ≤ x.length ∧ x.length ≤ 5000) (hn : L.length ≤ 65000) (hcap : l.length ≤ cap) (hb : Blk w b 123 [.slice none 0 0]) (hs : Sl w (some ⟨B, 0, none⟩) (cells8 l)) (hne : B ≠ b) :
    Calls Tryd.prog 66 #[.pointer (some ⟨b, 0, none⟩), .slice (some ⟨B, 0, none⟩) l.length cap] w fun e w' => ∃ A c vs, e = .returned .nilIface ∧ Blk w' b 123 [.slice A L.length c] ∧ Sl w' A vs ∧ Parts w' B L vs ∧ w.grownBy w' (some b) := by
  have HB := hide hb
  have HS := hide hs
  have H16 := Lib.hid (show be16 l = 47 by rw [hl]; exact be16_big 47 (by omega) _)
  have HLL := Lib.hid (show l.length = 6 + T.length by rw [hl, extL_length, vecL_length]; omega)
  have HL2 := Lib.hid (show l.drop 2 = vecL (vecL T 2) 2 ++ [] by rw [hl, List.append_nil]; exact List.drop_left' (bigL_length 2 _))
  have HVT := Lib.hid (vecL_length T 2)
  have HT := Lib.hid hT
  have HLs := Lib.hid hL
  have hBl : B < w.heap.size := by
    obtain ⟨b', o', e, hc⟩ := hs 0 _ (cells8_get l 0 (by have := HLL.out; omega))
    injection e with e; injection e with e1 e2; subst e1
    exact World.block_lt_of_cell? w _ hc
  have hblt := hb.lt
  clear hb hs hl hT hL
  go_enter Tryd.func66, Tryd.ntmps66
  go_wp2_with fail
  have V0 := Lib.hid (Str.of (n := l.length) (l := l) rfl (((Blk.new w 181 [.slice (some ⟨B, 0, none⟩) l.length cap]).alloc (.cells #[.int .u16 0] 22))) (HS.out.below (((Below.refl _ _).alloc (Nat.le_refl _) _).alloc (by simp) _)) hcap (Nat.zero_le _))
  have E0 := Lib.hid (Blk.new_at (w := w.alloc (.cells #[.slice (some ⟨B, 0, none⟩) l.length cap] 181)) (w.heap.size + 1) (by simp) 22 [.int .u16 0])
  have P0 := Lib.hid ((HB.out.alloc (.cells #[.slice (some ⟨B, 0, none⟩) l.length cap] 181)).alloc (.cells #[.int .u16 0] 22))
  go_region_law (first | (go_simp; go_at_call 94; refine (ru16 w.heap.size (w.heap.size + 1) B _ _ l _ (by have := HLL.out; omega) V0.out.drew E0.out (by omega) (by omega) (by omega)).mono ?_; rintro e w1 ⟨rfl, hV1, hE1, hC1⟩; rw [HL2.out] at hV1; rw [H16.out] at hE1; have e1 := hE1.cell 0; have P1 := Lib.hid (hC1.blk (by simp; omega) P0.out); have p0 := P1.out.cell 0; have elt := hE1.lt; have plt := P1.out.lt) | (go_simp; go_at_call 99; refine (type_any _ _).mono ?_; rintro e w2 ⟨rfl, rfl⟩))
  all_goals
    have V1 := Lib.hid hV1
    have HB1 := Lib.hid (show Below w.heap.size w w1 from Chg.below ((((Below.refl _ _).alloc (Nat.le_refl _) _).alloc (by simp) _).drew) hC1 (by show _ ≤ ((w.alloc _).alloc _).heap.size; simp; omega) (by simp))
    clear hV1 hE1 hC1 V0 E0 P0 e1 p0
    go_wp2_with fail
    refine (lp16v w.heap.size (w1.heap.size + 1) B _ (.slice none 0 0) (vecL T 2) [] _ (by have := HVT.out; omega) (by exact V1.out.chg (((Chg.refl [] w1).alloc _).alloc _) (by simp) (by simp)) (by exact Blk.new_at (w1.heap.size + 1) (by simp) _ [.slice none 0 0]) (by omega) (by omega) (by omega)).mono ?_
    rintro e w3 ⟨rfl, hV3, hX3, hC3⟩
    have X3 := Lib.hid hX3
    have P3 := Lib.hid (Chg.blk (b := b) hC3 (by simp; omega) ((P1.out.alloc _).alloc _))
    have HB3 := Lib.hid (show Below w.heap.size w w3 from Chg.below ((HB1.out.alloc HB1.out.size _).alloc (by have := HB1.out.size; simp; omega) _) hC3 (by have := HB1.out.size; simp; omega) (by simp; have := HB1.out.size; omega))
    have hw13 : w1.heap.size + 1 < w3.heap.size := hX3.lt
    have hVl3 := hV3.lt
    obtain ⟨offX3, capX3, cX3, _⟩ := hX3.cell
    clear hV3 hX3 hC3 V1 P1
    have hXb : (((vecL T 2).length : Int) == 0) = false := by have := HVT.out; simp only [beq_eq_false_iff_ne]; omega
    go_wp2_with fail
    refine (empty_any _ _ _ _).mono ?_
    rintro e w5 ⟨rfl, rfl⟩
    go_wp2_with fail
    refine (lp16v (w1.heap.size + 1) w3.heap.size B _ (.slice none 0 0) T [] _ (by omega) (by rw [List.append_nil]; exact X3.out.chg ((Chg.refl [] w3).alloc _) (by simp) (by simp)) (Blk.new w3 _ [.slice none 0 0]) (by omega) (by omega) (by omega)).mono ?_
    rintro e w4 ⟨rfl, hX4, hT4, hC4⟩
    have T4 := Lib.hid hT4
    have P4 := Lib.hid (Chg.blk (b := b) hC4 (by simp; omega) (P3.out.alloc _))
    have hs13 : w.heap.size ≤ w3.heap.size := by omega
    have HB4 := Lib.hid (show Below w.heap.size w w4 from Chg.below (HB3.out.alloc HB3.out.size _) hC4 (by simp; omega) (by intro z hz; simp only [List.mem_cons, List.not_mem_nil, or_false] at hz; rcases hz with rfl | rfl <;> omega))
    have hw34 : w3.heap.size < w4.heap.size := hT4.lt
    obtain ⟨offT, capT, cT, _⟩ := hT4.cell
    obtain ⟨offX, capX, cX, _⟩ := hX4.cell
    have hTb : ((T.length : Int) == 0) = false := by simp only [beq_eq_false_iff_ne]; omega
    have plt4 := P4.out.lt
    have hXl4 : w1.heap.size + 1 < w4.heap.size := by omega
    clear hX4 hT4 hC4 X3 P3 cX3 hXb
    go_wp2_with (go_at_call 97; refine (empty_any _ _ _ _).mono ?_; rintro e w5 ⟨rfl, rfl⟩)
    have HG4 := HB4
    have hTle : w4.heap.size ≤ w4.heap.size := Nat.le_refl _
    clear cT cX hTb HB1 HB3
    go_loopw [9, 10] (fun cv _ wr => ∃ k : Nat, k ≤ L.length ∧ Str wr w3.heap.size B (textsL 2 (L.drop k)) ∧ Blk wr b 123 [.slice none 0 0] ∧ (∃ vs, wr.ownsRow w4.heap.size 48 1 cv k vs ∧ Parts w B (L.take k) vs) ∧ Below w.heap.size w wr ∧ w4.heap.size ≤ wr.heap.size) (fun _ _ wr => strLen wr w3.heap.size)
    case atStart => exact ⟨0, by omega, by rw [List.drop_zero, ← HT.out]; exact T4.out, P4.out, ⟨_, World.ownsRow_nil _ _ _ _, Parts.nil _ _⟩, HB4.out, Nat.le_refl _⟩
    case round =>
      obtain ⟨k, hk, hstr, hblk, ⟨vs, hown, hpar⟩, hbel, hsz⟩ := hrel
      have HSt := Lib.hid hstr
      have HK := Lib.hid hblk
      have HO := Lib.hid hown
      have HPA := Lib.hid hpar
      have HBE := Lib.hid hbel
      obtain ⟨off, cp, cS, _⟩ := hstr.cell
      have hlen0 := hstr.len
      have hPl : w3.heap.size < wr.heap.size := by omega
      by_cases hlt : k < L.length
      · obtain ⟨x, hx⟩ : ∃ x, L[k]? = some x := ⟨_, List.getElem?_eq_getElem hlt⟩
        have hx1 := HLs.out x (List.mem_of_getElem? hx)
        have hdr : textsL 2 (L.drop k) = vecL x 2 ++ textsL 2 (L.drop (k + 1)) := by
          have he : L[k] = x := by rw [List.getElem?_eq_getElem hlt] at hx; simpa using hx
          rw [List.drop_eq_getElem_cons hlt, he]; rfl
        have hlenT : (textsL 2 (L.drop k)).length = 2 + x.length + (textsL 2 (L.drop (k + 1))).length := by rw [hdr, List.length_append, vecL_length]
        have HDR := Lib.hid hdr
        have HX := Lib.hid hx
        have HLT := Lib.hid hlenT
        have hne0 : (((textsL 2 (L.drop k)).length : Int) == 0) = false := by simp only [beq_eq_false_iff_ne]; omega
        clear hstr hblk hown hpar hbel hx hdr hlenT
        go_wp2_with (go_at_call 97; refine (empty_any _ _ _ _).mono ?_; rintro e w5 ⟨rfl, rfl⟩)
        refine (lp16v w3.heap.size wr.heap.size B _ (.slice none 0 0) x (textsL 2 (L.drop (k + 1))) _ (by omega) (by rw [← HDR.out]; exact HSt.out.chg ((Chg.refl [] wr).alloc _) (by simp) (by simp)) (Blk.new wr _ [.slice none 0 0]) (by omega) (by omega) (by omega)).mono ?_
        rintro e w6 ⟨rfl, hS6, hX6, hC6⟩
        have S6 := Lib.hid hS6
        have K6 := Lib.hid (Chg.blk (b := b) hC6 (by simp; omega) (HK.out.alloc _))
        have hw6 : wr.heap.size < w6.heap.size := hX6.lt
        have O6 := Lib.hid (own_chg HO.out ((show Chg [w3.heap.size, wr.heap.size] (wr.alloc (.cells #[.slice none 0 0] 181)) w6 from hC6)) (fun g hgv => by have h1 := HO.out.lt g hgv; simp; omega))
        have B6 := Lib.hid (show Below w.heap.size w w6 from Chg.below (HBE.out.alloc HBE.out.size _) hC6 (by have := HBE.out.size; simp; omega) (by intro z hz; simp only [List.mem_cons, List.not_mem_nil, or_false] at hz; rcases hz with rfl | rfl <;> omega))
        obtain ⟨offx, capx, cx, sx⟩ := hX6.cell
        have SX := Lib.hid (sx.back B6.out hBl)
        have hxb : ((x.length : Int) == 0) = false := by simp only [beq_eq_false_iff_ne]; omega
        clear hS6 hX6 hC6 sx
        go_wp2_with (first | (at_builtin; refine wpList_append_lit elBs rfl _ _ rfl rfl O6.out rfl rfl (by simp [Value.oneCell']) (by omega) (by unfold maxLen; omega) (by omega) ?_; intro v' w' hown' hb' hat'; have HO' := Lib.hid hown'; have HB' := Lib.hid hb'; clear hown' hb' hat'))
        have hN : Str w' w3.heap.size B (textsL 2 (L.drop (k + 1))) := by
          obtain ⟨t, o, cc, h1, h2, h3, h4⟩ := S6.out
          exact ⟨t, o, cc, h1.below HB'.out hw34, h2, h3, h4.keep HB'.out (fun b' o' e => by injection e with e; injection e with e1; omega)⟩
        have HN := Lib.hid hN
        clear hN
        go_roundw
        case rel =>
          refine ⟨k + 1, by omega, HN.out, K6.out.below HB'.out plt4, ⟨_, HO'.out, ?_⟩, B6.out.trans (HB'.out.mono (by omega)), by have := HB'.out.size; omega⟩
          rw [show L.take (k + 1) = L.take k ++ [x] from by rw [List.take_add_one, HX.out]; rfl]
          exact HPA.out.snoc x offx capx SX.out
        case measure =>
          rw [HN.out.len, hlen0]
          have := HLT.out
          omega
      · obtain rfl : k = L.length := by omega
        have hz : ((textsL 2 (L.drop L.length)).length : Int) = 0 := by rw [List.drop_length]; rfl
        have hb0 : (((textsL 2 (L.drop L.length)).length : Int) == 0) = true := by rw [hz]; rfl
        rw [List.take_length] at HPA
        clear hz hstr hblk hpar hbel
        obtain ⟨g9, c9, rfl, hc9, hm9, hge9, hgl9⟩ := own_form hown hn0
        clear hown
        have ck := HK.out.cell 0
        have fk := HK.out.frozen 0
        have hbr := HK.out.lt
        have hmk := fun W : World => run_make_row' (P := Tryd.prog) 121 48 (.slice none 0 0) 24 Tryd.underlying121 (by kernel_rfl) rfl .i64 .i64 L.length (by omega) (by omega) W
        simp only [List.getElem?_cons_zero] at ck
        have hHS : w.heap.size ≤ wr.heap.size := HBE.out.size
        have hgb : g9 ≠ b := by omega
        have HW := Lib.hid (fun (c : Value) (o : Obj) => (Sl.of_own HO.out).setCell_far (p := ⟨b, 0, none⟩) (fun b' o' e => by injection e with e; injection e with e1; subst e1; exact hgb) c |>.below ((Below.refl _ _).alloc (Nat.le_refl _) o))
        have HNW := Lib.hid (show ∀ c : Value, Blk ((wr.setCell ⟨b, 0, none⟩ c).alloc (.cells (madeCells #[.slice none 0 0] L.length) 48)) wr.heap.size 48 (List.replicate L.length (.slice none 0 0)) from fun c => by
          have h := Blk.new_at (w := wr.setCell ⟨b, 0, none⟩ c) wr.heap.size (by simp [World.setCell]) 48 (List.replicate L.length (.slice none 0 0))
          have e : (List.replicate L.length (Value.slice none 0 0)).toArray = madeCells #[.slice none 0 0] L.length := by
            rw [← toList_madeCells_one]
          rw [e] at h
          exact h)
        have HK9 := Lib.hid (fun c : Value => (HK.out.set_ 0 c).alloc (.cells (madeCells #[.slice none 0 0] L.length) 48))
        have HG9 := Lib.hid (fun c : Value => only_alloc (only_setCell (p := ⟨b, 0, none⟩) (only_of_below HBE.out (some b)) (.inl rfl) c) (.cells (madeCells #[.slice none 0 0] L.length) 48))
        have hvl : vs.length = L.length := HPA.out.1
        have hsp : splice (List.replicate L.length (Value.slice none 0 0)) 0 vs = vs := by simp [splice, hvl]
        go_wp2_with (first | (go_at_call 97; refine (empty_any _ _ _ _).mono ?_; rintro e w5 ⟨rfl, rfl⟩) | ((refine wpList_copy_splice rfl (.tmp 65) (.tmp 66) 121 121 rfl 48 Tryd.underlying121 (by kernel_rfl) _ _ _ _ _ _ rfl rfl wr.heap.size 0 _ 48 (HNW.out _) vs (by rw [hvl]; exact (Nat.min_self _).symm) (fun _ => ⟨rfl, ⟨g9, 0, none⟩, rfl, (HW.out _ _).at_⟩) (by simp [hvl]) HPA.out.one wr.heap.size _ (Below.refl _ _) (Nat.le_refl _) ?_); intro w7 hg7 hb7; have HK7 := Lib.hid ((HK9.out _).below hb7 hbr); have HG7 := Lib.hid (only_below (HG9.out _) hb7 hHS)))
        go_ret
        rw [hsp] at hg7
        exact ⟨_, _, vs, rfl, HK7.out, (show Blk w7 wr.heap.size 48 vs from hg7.out).sl (fun j v hj => by rw [Nat.zero_add]; exact hj), HPA.out.only HG7.out hne, HG7.out⟩
set_option maxRecDepth 100000 in
theorem plain_any (A : Option Addr) (c B : Nat) (vs : List Value) (L : List (List UInt8)) (w : World) (hn : L.length ≤ 65000) (hL : ∀ x ∈ L, 1 ≤ x.length ∧ x.length ≤ 5000) (hs : Sl w A vs) (hp : Parts w B L vs) :
    Calls Tryd.prog 100 #[.slice A L.length c] w fun e w' => ∃ v, e = .returned v ∧ w'.ownsRow w.heap.size 9 1 v L.length (strs L) ∧ Below w.heap.size w w' := by
  have HS := Lib.hid hs
  have HP := Lib.hid hp
  have HLs := Lib.hid hL
  clear hs hp hL
  go_enter Tryd.func100, Tryd.ntmps100
  go_wp2
  go_loopw [3, 5, 8] (fun v _ i wr => ∃ k : Nat, k ≤ L.length ∧ i = .int .i64 k ∧ wr.ownsRow w.heap.size 9 1 v k (strs (L.take k)) ∧ Below w.heap.size w wr) (fun _ _ i _ => L.length - (intOf i).toNat)
  case atStart => exact ⟨0, by omega, rfl, World.ownsRow_nil _ _ _ _, Below.refl _ _⟩
  case round =>
    obtain ⟨k, hk, rfl, hown, hb⟩ := hrel
    have HO := Lib.hid hown
    have HB := Lib.hid hb
    have hbs := hb.size
    clear hb
    by_cases hlt : k < L.length
    · obtain ⟨x, hx⟩ : ∃ x, L[k]? = some x := ⟨_, List.getElem?_eq_getElem hlt⟩
      obtain ⟨ox, cx, hvx, hsx⟩ := (HP.out.below HB.out).2 k x hx
      obtain ⟨bb, off, rfl, hc⟩ := (HS.out.below HB.out) k _ hvx
      have HX := Lib.hid hx
      have hx1 := HLs.out x (List.mem_of_getElem? hx)
      have hstr6 := run_string_of (P := Tryd.prog) wr Tryd.underlying48 Tryd.underlying5 Tryd.underlying9 (c := cx) rfl hsx
      clear hx hsx hown hvx
      go_wp2_with (at_builtin; refine wpList_append_lit elStr rfl _ _ rfl rfl HO.out rfl rfl (by simp [Value.oneCell']) (by omega) (by unfold maxLen; omega) (by omega) ?_; intro v' w' hown' hb' hat'; have HO' := Lib.hid hown'; have HB' := Lib.hid hb'; clear hown' hb' hat')
      go_roundw
      case rel =>
        refine ⟨k + 1, by omega, by go_num, ?_, HB.out.trans HB'.out⟩
        rw [show strs (L.take (k + 1)) = strs (L.take k) ++ [.string (S x)] from (take_map_succ (fun x => Value.string (S x)) L k x HX.out).symm]
        exact HO'.out
      case measure => simp [intOf]; omega
    · obtain rfl : k = L.length := by omega
      rw [List.take_length] at HO
      clear hown
      go_wp2
      go_ret
      exact ⟨_, rfl, HO.out, HB.out⟩
abbrev alRow (lst : Value) : List Value := [.int .u16 47, .string ⟨#[]⟩, lst, .slice none 0 0, .slice none 0 0, .bool false, .int .u32 0, .bool false, .slice none 0 0, .slice none 0 0, .slice none 0 0, .slice none 0 0, .slice none 0 0]
abbrev zeroRow : List Value := [.int .u16 0, .string ⟨#[]⟩, .slice none 0 0, .slice none 0 0, .slice none 0 0, .bool false, .int .u32 0, .bool false, .slice none 0 0, .slice none 0 0, .slice none 0 0, .slice none 0 0, .slice none 0 0]
theorem al_one (A : Option Addr) (n c : Nat) : ((alRow (.slice A n c)).toArray).all (·.oneCell') = true := by simp [Value.oneCell']
theorem strs_one (L : List (List UInt8)) : ∀ u ∈ strs L, u.oneCell' = true := by
  intro u hu
  simp only [strs, List.mem_map] at hu
  obtain ⟨x, _, rfl⟩ := hu
  rfl
set_option maxRecDepth 100000 in
theorem data_any (L : List (List UInt8)) (b B : Nat) (A : Option Addr) (c : Nat) (vs : List Value) (w : World) (hn0 : 0 < L.length) (hn : L.length ≤ 65000) (hL : ∀ x ∈ L, 1 ≤ x.length ∧ x.length ≤ 5000) (hb : Blk w b 123 [.slice A L.length c]) (hs : Sl w A vs) (hp : Parts w B L vs) :
    Calls Tryd.prog 67 #[.pointer (some ⟨b, 0, none⟩)] w fun e w' => ∃ A' c', e = .returned (.agg (alRow (.slice A' L.length c')).toArray) ∧ Sl w' A' (strs L) ∧ (∀ b off, A' = some ⟨b, off, none⟩ → w.heap.size ≤ b) ∧ Below w.heap.size w w' := by
  have HB := Lib.hid hb
  have HS := Lib.hid hs
  have HP := Lib.hid hp
  have HLs := Lib.hid hL
  have hblt := hb.lt
  have c0 := hb.cell 0
  simp only [List.getElem?_cons_zero] at c0
  clear hb hs hp hL
  go_enter Tryd.func67, Tryd.ntmps67
  have HW0 := Lib.hid ((((Below.refl w.heap.size w).alloc (Nat.le_refl _) (.cells zeroRow.toArray 40)).alloc (by simp) (.cells (alRow (.slice none 0 0)).toArray 40)))
  have HS0 := Lib.hid (HS.out.below HW0.out)
  have HP0 := Lib.hid (HP.out.below HW0.out)
  have HO0 := Lib.hid (Blk.new_at (w := w.alloc (.cells zeroRow.toArray 40)) (w.heap.size + 1) (by simp) 40 (alRow (.slice none 0 0)))
  have HR0 := Lib.hid ((Blk.new w 40 zeroRow).alloc (.cells (alRow (.slice none 0 0)).toArray 40))
  have h2W : w.heap.size + 2 ≤ ((w.alloc (.cells zeroRow.toArray 40)).alloc (.cells (alRow (.slice none 0 0)).toArray 40)).heap.size := by simp
  go_wp2_with fail
  refine (plain_any A c B vs L _ hn HLs.out HS0.out HP0.out).mono ?_
  rintro e w' ⟨v', rfl, hown1, hb1⟩
  have hown' := own_mono hown1 h2W
  have hb' := hb1.mono h2W
  obtain ⟨g', c', rfl, hc', hm', hge', hgl'⟩ := own_form hown' (by omega)
  have HO' := Lib.hid hown'
  have HB' := Lib.hid hb'
  have HK' := Lib.hid (HO0.out.below hb' (by omega))
  have HR' := Lib.hid (HR0.out.below hb' (by omega))
  have f2 := HK'.out.frozen 2
  have k2 : w'.cell? ⟨w.heap.size + 1, 2, none⟩ = some (.slice none 0 0) := HK'.out.cell 2
  have hlt' := HK'.out.lt
  have HOs := Lib.hid (show Blk (w'.setCell ⟨w.heap.size + 1, 2, none⟩ (.slice (some ⟨g', 0, none⟩) L.length c')) (w.heap.size + 1) 40 (alRow (.slice (some ⟨g', 0, none⟩) L.length c')) from HK'.out.set_ 2 (.slice (some ⟨g', 0, none⟩) L.length c'))
  have HRs := Lib.hid (HR'.out.far (p := ⟨w.heap.size + 1, 2, none⟩) (Nat.ne_of_lt (Nat.lt_succ_self _)) (.slice (some ⟨g', 0, none⟩) L.length c'))
  clear hown1 hb1 hown' hb' HS0 HO0 HR0 h2W
  go_wp2_with (first | (refine wpList_load_mid rfl _ (.tmp 3) rfl _ _ rfl (alRow (.slice (some ⟨g', 0, none⟩) L.length c')) _ HOs.out.rangeAt Tryd.underlying40 rfl (by kernel_rfl) ?_) | (refine wpList_store_blk HRs.out rfl (.tmp 2) (.tmp 11) rfl (alRow (.slice (some ⟨g', 0, none⟩) L.length c')).toArray rfl rfl rfl (by kernel_rfl) (al_one _ _ _) ?_; intro w4 hr4 hg4; have HR4 := Lib.hid hr4; have HG4 := Lib.hid hg4; clear hr4 hg4))
  refine bodyPost_ret (ret_cell HR4.out rfl rfl Tryd.underlying40 rfl (by kernel_rfl)) rfl ?_
  have HBw := Lib.hid (below_set (HW0.out.trans (HB'.out.mono (by omega))) (p := ⟨w.heap.size + 1, 2, none⟩) (Nat.le_succ _) (.slice (some ⟨g', 0, none⟩) L.length c'))
  exact ⟨some ⟨g', 0, none⟩, ⟨c', rfl⟩, ((Sl.of_own HO'.out).setCell_far (p := ⟨w.heap.size + 1, 2, none⟩) (fun b' o' e => by injection e with e; injection e with e1; show b' ≠ w.heap.size + 1; omega) _).only HG4.out (fun b' o' e => by injection e with e; injection e with e1; omega), (fun b' o' e => by injection e with e; injection e with e1; omega), below_only HBw.out HG4.out HBw.out.size (Nat.le_refl _)⟩
set_option maxRecDepth 100000 in
theorem read_ok (l T : List UInt8) (L : List (List UInt8)) (w : World) (hT : T = textsL 2 L) (hl : l = extL 47 (vecL T 2)) (hT0 : 0 < T.length) (hT1 : T.length < 65000) (hL : ∀ x ∈ L, 1 ≤ x.length ∧ x.length ≤ 5000) (hn0 : 0 < L.length) (hn : L.length ≤ 65000) :
    Calls Tryd.prog 27 #[.string (S l)] w fun e w' => ∃ A c, e = .returned (.tuple #[.agg (alRow (.slice A L.length c)).toArray, .bool true]) ∧ Sl w' A (strs L) ∧ Below w.heap.size w w' := by
  have HT := Lib.hid hT
  have HL := Lib.hid hl
  have HLs := Lib.hid hL
  clear hT hl hL
  go_enter Tryd.func27, Tryd.ntmps27
  go_wp2_with (refine wpList_bytes (o := ⟨some 10, _, _, _, _, _⟩) rfl _ rfl Tryd.underlying9 Tryd.underlying48 Tryd.underlying5 rfl (w.heap.size + 2) (by simp) ?_; intro cap w1 hcap hs1 hb1 hlt1 hx1; have HCAP := hide hcap; have HS1 := hide hs1; have HB1 := hide hb1; have HLT1 := hide hlt1; clear hcap hs1 hb1 hlt1 hx1)
  refine (unm_ok l T L (w.heap.size + 1) (w.heap.size + 2) cap w1 HT.out HL.out hT0 hn0 hT1 HLs.out hn HCAP.out ((Blk.new_at (w.heap.size + 1) (by simp) 123 [.slice none 0 0]).below HB1.out (by omega)) HS1.out (by omega)).mono ?_
  rintro e w2 ⟨A2, c2, vs, rfl, hbk2, hs2, hp2, hg2⟩
  have hr2 : Blk w2 w.heap.size 40 zeroRow :=
    (((Blk.new w 40 _).alloc _).below HB1.out (by omega)).grown hg2 (by simp)
  have HB := Lib.hid (show Below w.heap.size w w2 from (((Below.refl _ _).alloc (Nat.le_refl _) _).alloc (by simp) _).trans ((HB1.out.mono (by omega)).grown hg2 (by have := HLT1.out; omega) (fun k e => by injection e with e; omega)))
  have HK2 := hide hbk2
  have HS2 := hide hs2
  have HP2 := hide hp2
  have HR2 := hide hr2
  clear hr2 hbk2 hg2 hs2 hp2
  go_wp2_with fail
  refine (data_any L (w.heap.size + 1) (w.heap.size + 2) A2 c2 vs w2 hn0 hn HLs.out HK2.out HS2.out HP2.out).mono ?_
  rintro e w3 ⟨A3, c3, rfl, hs3, hA3, hb3⟩
  have hr3 := HR2.out.below hb3 HR2.out.lt
  have HB3 := Lib.hid (HB.out.trans (hb3.mono HB.out.size))
  have HR3 := hide hr3
  have HS3 := hide hs3
  clear hr3 hb3 hs3
  go_wp2_with (refine wpList_store_blk HR3.out rfl (.tmp 2) (.tmp 16) rfl (alRow (.slice A3 L.length c3)).toArray rfl rfl rfl (by kernel_rfl) (al_one _ _ _) ?_; intro w4 hr4 hg4; have HR4 := hide hr4; have HG4 := hide hg4; clear hr4 hg4)
  refine bodyPost_ret (ret_cell_tmp HR4.out rfl rfl Tryd.underlying40 rfl (by kernel_rfl)) rfl ?_
  have hwl2 : w.heap.size < w2.heap.size := HR2.out.lt
  exact ⟨A3, ⟨c3, rfl⟩, HS3.out.only HG4.out (fun b' off e => by have := hA3 b' off e; omega), below_only HB3.out HG4.out HB3.out.size (Nat.le_refl _)⟩

set_option maxRecDepth 3000000 in
set_option maxHeartbeats 8000000 in
theorem walk (A0 : Option Addr) (c0 : Nat) (a0 : List ByteArray) (w : World) (hl0 : a0.length ≤ c0) (hm0 : c0 ≤ maxLen) (hs0 : Sl w A0 (a0.map Value.string)) (w0 : ∀ s ∈ a0, s.size ≤ maxLen) (hE11 : ErrAt 205 11 w) (hE8 : ErrAt 205 8 w) (hE9 : ErrAt 205 9 w) (hE12 : ErrAt 205 12 w) :
    Calls Tryd.prog 7 #[.slice A0 a0.length c0] w fun e w' => e = .returned (.bool true) ∧ Below w.heap.size w w' := by
  obtain ⟨L, rfl⟩ := ex_strs a0
  have HS := Lib.hid (show Sl w A0 (strs L) by simpa [strs, Function.comp_def] using hs0)
  have hlen : (L.map S).length = L.length := List.length_map ..
  rw [hlen]
  clear hs0 w0 hE11 hE12 hE8 hE9 hl0 hm0 hlen
  go_enter Tryd.func7, Tryd.ntmps7
  go_wp2_with fail
  refine (fits_any A0 c0 L w HS.out).mono ?_
  rintro e w1 ⟨f, rfl, hf, hb1⟩
  have HB1 := Lib.hid hb1
  clear hb1
  cases f with
  | false =>
    go_wp2
    go_ret
    exact ⟨rfl, HB1.out⟩
  | true =>
    obtain ⟨hn1, hn2⟩ := hf rfl
    have HN2 := Lib.hid hn2
    clear hf hn2
    go_wp2_with fail
    refine (between_any A0 c0 L 1 5000 w1 hn1 (by omega) (by omega) HN2.out (HS.out.below HB1.out)).mono ?_
    rintro e w2 ⟨g, rfl, hg, hb2⟩
    have HB2 := Lib.hid (HB1.out.trans (hb2.mono HB1.out.size))
    clear hb2
    cases g with
    | false =>
      go_wp2
      go_ret
      exact ⟨rfl, HB2.out⟩
    | true =>
      obtain ⟨hp, hwt, hall⟩ := hg rfl
      have HALL := Lib.hid hall
      have h31 : weight 2 L + L.length ≤ weight 3 L := weight_32 L
      have HW1 := Lib.hid (show weight 2 L ≤ 60000 ∧ L.length ≤ 60000 by omega)
      have HTL := Lib.hid (textsL_length 2 L)
      have hw1L := weight_len L
      have HTP := Lib.hid (show 0 < weight 2 L by omega)
      clear hg hall hwt h31 hw1L
      go_wp2_with fail
      refine (texts_any A0 c0 L 2 w2 hn1 (by have := HW1.out; omega) (by omega) (HS.out.below HB2.out)).mono ?_
      rintro e w3 ⟨rfl, hb3⟩
      have HB3 := Lib.hid (HB2.out.trans (hb3.mono HB2.out.size))
      clear hb3
      go_wp2_with fail
      refine (vec_any (textsL 2 L) 2 w3 (by have := HW1.out; have := HTL.out; omega) (by omega) (by omega)).mono ?_
      rintro e w4 ⟨rfl, hb4⟩
      have HB4 := Lib.hid (HB3.out.trans (hb4.mono HB3.out.size))
      clear hb4
      go_wp2_with fail
      refine (framedExt_any 47 (vecL (textsL 2 L) 2) w4 (by omega) (by omega) (by have := HW1.out; have := HTL.out; rw [vecL_length]; omega)).mono ?_
      rintro e w5 ⟨rfl, hb5⟩
      have HB5 := Lib.hid (HB4.out.trans (hb5.mono HB4.out.size))
      clear hb5
      go_wp2_with fail
      refine (read_ok (extL 47 (vecL (textsL 2 L) 2)) (textsL 2 L) L w5 rfl rfl (by have := HTL.out; have := HTP.out; omega) (by have := HTL.out; have := HW1.out; omega) HALL.out hp (by have := HW1.out; omega)).mono ?_
      rintro e w6 ⟨A, c, rfl, hs6, hb6⟩
      have HB6 := Lib.hid (HB5.out.trans (hb6.mono HB5.out.size))
      have HS6 := Lib.hid hs6
      clear hb6 hs6
      go_wp2_with fail
      have F1 := Lib.hid (show ∀ o : Obj, Sl (w6.alloc o) A ((L.map S).map Value.string) from fun o => by have k := HS6.out.below ((Below.refl _ _).alloc (Nat.le_refl _) o); simpa [strs, Function.comp_def] using k)
      have F2 := Lib.hid (show ∀ o : Obj, Sl (w6.alloc o) A0 ((L.map S).map Value.string) from fun o => by have k := HS.out.below (HB6.out.alloc HB6.out.size o); simpa [strs, Function.comp_def] using k)
      refine (sameExt_of 47 false false 0 ⟨#[]⟩ _ _ _ _ _ _ _ _ _ _ _ _ _ _ _ _ _ (same_str _ _ _ _ _ _ (L.map S) _ (by simp) (by simp) (by rw [List.length_map]; exact hn1) (F1.out _) (F2.out _)) (same_nil_u16 none none 0 0 _ _) (same_nil_pair none none 0 0 _ _) (same_nil_share none none 0 0 _ _) (same_nil_share none none 0 0 _ _) (same_nil_u16 none none 0 0 _ _) (same_nil_ident none none 0 0 _ _) (same_nil_filter none none 0 0 _ _)).mono ?_
      rintro e w7 ⟨rfl, hb7⟩
      have HB7 := Lib.hid ((HB6.out.alloc HB6.out.size _).trans (hb7.mono (by have := HB6.out.size; simp; omega)))
      clear hb7
      go_wp2
      go_ret
      exact ⟨rfl, HB7.out⟩
abbrev laidL : List (String × DataW Unit) := [("pub-convoy/pub/dtls/pkg/protocol/extension.errBufferTooSmall", Rows.laid_pub_convoy_pub_dtls_pkg_protocol_extension_errBufferTooSmall), ("pub-convoy/pub/dtls/pkg/protocol/extension.errInvalidExtensionType", Rows.laid_pub_convoy_pub_dtls_pkg_protocol_extension_errInvalidExtensionType), ("pub-convoy/pub/dtls/pkg/protocol/extension.errLengthMismatch", Rows.laid_pub_convoy_pub_dtls_pkg_protocol_extension_errLengthMismatch), ("pub-convoy/pub/dtls/pkg/protocol/extension.errInvalidCertificateAuthFormat", Rows.laid_pub_convoy_pub_dtls_pkg_protocol_extension_errInvalidCertificateAuthFormat)]
theorem door_met (os : Os) (args : Array Value) : laidMetH Tryd.prog laidL ((World.doorLaid Tryd.prog 323 os).forCall (fun _ _ => 0) ⟨#[], args, []⟩).memory :=
  laidMetH_of_parts3 (fuel := 8) (laidMet_of_run' 8 (by kernel_rfl) (by kernel_rfl)) (by kernel_rfl) (by kernel_rfl)
theorem of_laid {W : World} (h : laidMetH Tryd.prog laidL W) : ErrAt 205 11 W ∧ ErrAt 205 8 W ∧ ErrAt 205 9 W ∧ ErrAt 205 12 W := by
  rw [MakeChecks.laidMetH_plain _ _ _ (by kernel_rfl)] at h
  have k0 := errAt_of_laid h (show Tryd.prog.globalNamed "pub-convoy/pub/dtls/pkg/protocol/extension.errBufferTooSmall" = some 11 by kernel_rfl) (by kernel_rfl)
  have h1 := h.tail
  have k1 := errAt_of_laid h1 (show Tryd.prog.globalNamed "pub-convoy/pub/dtls/pkg/protocol/extension.errInvalidExtensionType" = some 8 by kernel_rfl) (by kernel_rfl)
  have h2 := h1.tail
  have k2 := errAt_of_laid h2 (show Tryd.prog.globalNamed "pub-convoy/pub/dtls/pkg/protocol/extension.errLengthMismatch" = some 9 by kernel_rfl) (by kernel_rfl)
  have h3 := h2.tail
  have k3 := errAt_of_laid h3 (show Tryd.prog.globalNamed "pub-convoy/pub/dtls/pkg/protocol/extension.errInvalidCertificateAuthFormat" = some 12 by kernel_rfl) (by kernel_rfl)
  exact ⟨k0, k1, k2, k3⟩
set_option maxRecDepth 100000 in
theorem lifted (os : Os) (started : os.Started) (H : Type) (enc : TypeId × Value → H) :
    ReturnsInHanded {} Tryd.checked os 7 .any (fun w args => (Rows.fnAuthoritiesBackSpec.pre enc Tryd.prog Tryd.f7 [] false w args ∧ laidMetH Tryd.prog laidL w) ∧ sizedMet enc Tryd.prog Tryd.f7 (OpenSpec.ofChange Rows.fnAuthoritiesBackSpec) false w args)
      (Rows.fnAuthoritiesBackSpec.post enc Tryd.prog Tryd.f7 false true false false) := by
  refine returnsInHanded_of_change_and (C := Tryd.checked) (X := fun w _ => laidMetH Tryd.prog laidL w) (fun _ _ _ hh h => h.of_heap hh) own started (by kernel_rfl) Tryd.func7
    (ChangeSpec.witness_shaped (enc := enc) (C := Tryd.checked) (os := os) (X := fun w _ => laidMetH Tryd.prog laidL w) false (World.doorLaid Tryd.prog 323 os) #[.slice none 0 0] 8 rfl (World.shaped_of_RefB (by kernel_rfl) (by kernel_rfl)) (by kernel_rfl) (by kernel_rfl) (by kernel_rfl) (door_met os _)) ?_
  intro W base args ds gs before hval0 hW _ _ hL _
  obtain ⟨hE11, hE8, hE9, hE12⟩ := of_laid hL
  have hval : ∀ (j : Nat) t v, Tryd.f7.params[j]? = some t → args[j]? = some v → Value.okWide Tryd.prog W .any base t v := hval0
  have hW' := hW
  obtain ⟨p, q, hA0, hV, rfl, hfz, hnd⟩ := hW
  have hA : DataW.TrodAll enc Tryd.prog W 0 (fun _ => true) true Tryd.f7.params.toList args.toList ds p := hA0
  rw [Tryd.params7] at hA hval
  obtain ⟨v0, vs0, d0, ds0, p0, q0, hargs, rfl, rfl, h0, r0⟩ := trodAll_cons hA
  obtain ⟨rfl, rfl, rfl⟩ := trodAll_nil r0
  obtain rfl : args = #[v0] := by cases args; simp_all
  obtain ⟨rfl, rfl⟩ := trodVars_none hV
  obtain ⟨A0, c0, a0, rfl, hl0, hm0, hs0, w0⟩ := open_strs_sl Tryd.underlying33 Tryd.underlying9 (by kernel_rfl) (hval 0 33 v0 rfl rfl) h0
  clear hA0 hval0
  refine (walk A0 c0 a0 W hl0 hm0 hs0 w0 hE11 hE8 hE9 hE12).mono fun e W' ⟨he, hb⟩ => ?_
  subst he
  exact ⟨_, rfl, law_post laidOut (by kernel_rfl) rfl Tryd.underlying4 rfl hW' rfl rfl rfl hb⟩

theorem over : Rows.fnAuthoritiesBackRow.holds Tryd.pinned (OpenSpec.ofChange Rows.fnAuthoritiesBackSpec) :=
  OpenClaim.holds_of_wide 7 Tryd.f7 rfl rfl rfl rfl rfl rfl rfl ⟨rfl, rfl, rfl, rfl, rfl⟩ rfl rfl rfl rfl rfl (by kernel_rfl) Tryd.func7 (by kernel_rfl)
    (of_decide_eq_true (by kernel_rfl)) (by unfold Func.isWrapper; first | (rw [if_pos (by decide +kernel)]; kernel_rfl) | (rw [if_neg (by decide +kernel)]; exact ⟨rfl, rfl⟩))
    (fun os started H enc _ => lifted os started H enc)

/-- THE STATEMENT: the tied card. -/
theorem proved : Rows.FnAuthoritiesBackCardSaid :=
  Claim7.holds_tied_plain_at .later [] [.sentinel, .sentinel, .sentinel, .sentinel] true (true, "20b3b98fcc8707e4b2223a6ae671195b166d92b4110cce829ed6e3bbef5fa288") false
    over (fun _ h => by cases h) (by kernel_rfl) (fun _ h => by cases h) fnAuthoritiesBack_row_tie rfl ⟨rfl, rfl⟩ (by kernel_rfl) rfl
    (fun f fn hf hfn => by
      obtain rfl : f = 7 := Option.some.inj ((show Tryd.prog.funcNamed "pub-convoy/laws.FnAuthoritiesBack" = some 7 by kernel_rfl).symm.trans hf) |>.symm
      obtain rfl : fn = Tryd.f7 := (Option.some.inj (Tryd.func7.symm.trans hfn)).symm
      exact ⟨by kernel_rfl, fun j t ht => by
        rw [Tryd.params7] at ht
        have hm : t ∈ [33] := by simpa using Array.mem_of_getElem? ht
        have hall : ([33].all fun u => !Tryd.prog.wantsStandIn u) = true := by kernel_rfl
        exact (show Tryd.prog.wantsStandIn t = false by simpa using List.all_eq_true.1 hall t hm)⟩)
    (by kernel_rfl)
#print axioms proved

end Go.Proofs.YthfpfakdchhodaaDoor.fnAuthoritiesBack
