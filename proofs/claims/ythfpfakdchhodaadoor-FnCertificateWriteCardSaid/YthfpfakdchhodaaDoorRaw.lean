/- Lists of rows of bytes: 'raw' makes them of strings, 'plain' strings of them. -/
import Derived.Test.YthfpfakdchhodaaDoorStrs
import Derived.Test.YthfpfakdchhodaaDoorPut
namespace Go.Proofs.YthfpfakdchhodaaDoor
open Go.ChangeShapes Go.WideShapes Go.ChangeAt Go.RowKit
set_option linter.unusedVariables false

theorem grown_cell' {w w' : World} {row : Option Nat} {p : Addr} {v : Value} (h : w.grownBy w' row) (hne : some p.block ≠ row) (hl : p.block < w.heap.size) (hc : w.cell? p = some v) : w'.cell? p = some v := by
  have := h.block p.block hl hne
  unfold World.cell? at hc ⊢
  rw [this]
  exact hc
/-- The slices vs hold the texts L, each in a block of bytes. -/
def Blobs (w : World) (L : List (List UInt8)) (vs : List Value) : Prop := vs.length = L.length ∧ ∀ (k : Nat) (x : List UInt8), L[k]? = some x → ∃ b off cap, vs[k]? = some (Value.slice (some ⟨b, off, none⟩) x.length cap) ∧ Sl w (some ⟨b, off, none⟩) (cells8 x) ∧ ∃ cs fr, w.heap[b]? = some (.cells cs 5 fr)
theorem Blobs.nil (w : World) : Blobs w (([] : List (List UInt8))) [] := ⟨rfl, fun k x h => by cases h⟩
theorem Blobs.snoc {w : World} {L : List (List UInt8)} {vs : List Value} (h : Blobs w L vs) (x : List UInt8) (b off cap : Nat) (hs : Sl w (some ⟨b, off, none⟩) (cells8 x)) (ht : ∃ cs fr, w.heap[b]? = some (.cells cs 5 fr)) : Blobs w (L ++ [x]) (vs ++ [.slice (some ⟨b, off, none⟩) x.length cap]) := by
  refine ⟨by simp [h.1], fun k y hy => ?_⟩
  by_cases hk : k < L.length
  · rw [List.getElem?_append_left hk] at hy
    obtain ⟨b', o, c, h1, h2⟩ := h.2 k y hy
    exact ⟨b', o, c, by rw [List.getElem?_append_left (by rw [h.1]; exact hk)]; exact h1, h2⟩
  · rw [List.getElem?_append_right (by omega)] at hy
    have h0 : k - L.length = 0 := by
      have := (List.getElem?_eq_some_iff.1 hy).1
      simp at this
      omega
    rw [h0] at hy
    injection hy with hy
    subst hy
    exact ⟨b, off, cap, by rw [List.getElem?_append_right (by rw [h.1]; omega), h.1, h0]; rfl, hs, ht⟩
theorem Blobs.below {w w' : World} {L : List (List UInt8)} {vs : List Value} (h : Blobs w L vs) (hb : Below w.heap.size w w') : Blobs w' L vs :=
  ⟨h.1, fun k x hx => by
    obtain ⟨b, o, c, h1, h2, cs, fr, h3⟩ := h.2 k x hx
    exact ⟨b, o, c, h1, h2.below hb, cs, fr, (hb.block b (Array.getElem?_eq_some_iff.1 h3).1).trans h3⟩⟩
theorem Blobs.grown {w w' : World} {L : List (List UInt8)} {vs : List Value} {row : Option Nat} (h : Blobs w L vs) (hg : w.grownBy w' row) (hr : ∀ g, row = some g → ∀ cs fr, w.heap[g]? ≠ some (.cells cs 5 fr)) : Blobs w' L vs :=
  ⟨h.1, fun k x hx => by
    obtain ⟨b, o, c, h1, h2, cs, fr, h3⟩ := h.2 k x hx
    have hne : some b ≠ row := fun e => hr b e.symm cs fr h3
    refine ⟨b, o, c, h1, fun j v hj => ?_, cs, fr, (hg.block b (Array.getElem?_eq_some_iff.1 h3).1 hne).trans h3⟩
    obtain ⟨b', o', e, hc⟩ := h2 j v hj
    cases e
    exact ⟨_, _, rfl, grown_cell' hg hne (World.block_lt_of_cell? w _ hc) hc⟩⟩
theorem own_ty {w : World} {base n size : Nat} {e : TypeId} {v : Value} {xs : List Value} (h : w.ownsRow base e size v n xs) (he : e ≠ 5) : ∀ g, v.ownBlock = some g → ∀ cs fr, w.heap[g]? ≠ some (.cells cs 5 fr) := by
  intro g hg cs fr hc
  rcases h.2 with ⟨rfl, _⟩ | ⟨g', cap, cur, rfl, _, h1, _⟩
  · cases hg
  · have hgg : g' = g := by simpa [Value.ownBlock] using hg
    subst hgg
    rw [h1] at hc
    injection hc with hc
    injection hc with h2 h3 h4
    exact he h3
theorem own_keep {w w' : World} {base n size : Nat} {e : TypeId} {v : Value} {xs : List Value} (h : w.ownsRow base e size v n xs) (hb : Below w.heap.size w w') : w'.ownsRow base e size v n xs := by
  obtain ⟨h1, h2⟩ := h
  refine ⟨h1, ?_⟩
  rcases h2 with ⟨a, b⟩ | ⟨g, cap, cur, a, b, c, d⟩
  · exact .inl ⟨a, b⟩
  · exact .inr ⟨g, cap, cur, a, b, (hb.block g (Array.getElem?_eq_some_iff.1 c).1).trans c, d⟩
theorem Blobs.one {w : World} {L : List (List UInt8)} {vs : List Value} (h : Blobs w L vs) : ∀ v ∈ vs, v.oneCell' = true := by
  intro v hv
  obtain ⟨k, hk, e⟩ := List.mem_iff_getElem.1 hv
  obtain ⟨b, o, c, h1, _⟩ := h.2 k (L[k]'(by rw [← h.1]; exact hk)) (List.getElem?_eq_getElem (by rw [← h.1]; exact hk))
  rw [List.getElem?_eq_getElem hk, e] at h1
  injection h1 with h1
  subst h1
  rfl
theorem elBs : Elem Tryd.prog 121 48 1 24 := Elem.of Tryd.underlying121 (z := Value.slice none 0 0) (by kernel_rfl) rfl (by decide)
set_option maxRecDepth 100000 in
theorem raw_any (A : Option Addr) (c : Nat) (L : List (List UInt8)) (w : World) (hn : L.length ≤ 100000) (hs : Sl w A (strs L)) :
    Calls Tryd.prog 92 #[.slice A L.length c] w fun e w' => ∃ v vs, e = .returned v ∧ w'.ownsRow w.heap.size 48 1 v L.length vs ∧ Blobs w' L vs ∧ Below w.heap.size w w' := by
  have HS := Lib.hid hs
  clear hs
  go_enter Tryd.func92, Tryd.ntmps92
  go_wp2
  go_loopw [3, 5, 8] (fun v _ i wr => ∃ k : Nat, k ≤ L.length ∧ i = .int .i64 k ∧ (∃ vs, wr.ownsRow w.heap.size 48 1 v k vs ∧ Blobs wr (L.take k) vs) ∧ Below w.heap.size w wr) (fun _ _ i _ => L.length - (intOf i).toNat)
  case atStart => exact ⟨0, by omega, rfl, ⟨_, World.ownsRow_nil _ _ _ _, Blobs.nil _⟩, Below.refl _ _⟩
  case round =>
    obtain ⟨k, hk, rfl, ⟨vs, hown, hbl⟩, hb⟩ := hrel
    have HO := Lib.hid hown
    have HBL := Lib.hid hbl
    have HB := Lib.hid hb
    have hbs := hb.size
    clear hb hown hbl
    by_cases hlt : k < L.length
    · obtain ⟨x, hx⟩ : ∃ x, L[k]? = some x := ⟨_, List.getElem?_eq_getElem hlt⟩
      obtain ⟨bb, off, rfl, hc⟩ := (HS.out.below HB.out) k (.string (S x)) (strs_get L k x hx)
      have HX := Lib.hid hx
      clear hx
      go_wp2_with (first | (refine wpList_bytes (o := ⟨some 14, _, _, _, _, _⟩) rfl _ rfl Tryd.underlying9 Tryd.underlying48 Tryd.underlying5 rfl wr.heap.size (by simp) ?_; intro cap w1 hcap hs1 hb1 hlt1 hx1; have HS1 := hide hs1; have HB1 := hide hb1; have HLT1 := hide hlt1; have HO1 := Lib.hid (own_keep HO.out hb1); have HX1 := Lib.hid hx1; clear hcap hs1 hb1 hlt1 hx1) | (at_builtin; refine wpList_append elBs rfl _ _ rfl rfl (HO1.out.alloc _) rfl rfl (sl_new _ _ _ _) (by simp [Value.oneCell']) (by omega) (by unfold maxLen; omega) (by have := HLT1.out; simp; omega) ?_; intro v' w' hown' hg' hb' hat'; have HO' := Lib.hid hown'; have HG' := Lib.hid hg'; have HB' := Lib.hid hb'; clear hown' hg' hb' hat'))
      go_roundw
      case rel =>
        have hlt1 : wr.heap.size ≤ w1.heap.size := HB1.out.size
        refine ⟨k + 1, by omega, by go_num, ⟨_, HO'.out, ?_⟩, (((HB.out.trans (HB1.out.mono hbs)).alloc (by omega) _).trans HB'.out)⟩
        rw [show L.take (k + 1) = L.take k ++ [x] from by rw [List.take_add_one, HX.out]; rfl]
        refine Blobs.grown (Blobs.below ((HBL.out.below HB1.out).snoc x _ 0 _ HS1.out HX1.out) ((Below.refl _ _).alloc (Nat.le_refl _) _)) HG'.out (own_ty (HO1.out.alloc _) (by decide))
      case measure => simp [intOf]; omega
    · obtain rfl : k = L.length := by omega
      rw [List.take_length] at HBL
      go_wp2
      go_ret
      exact ⟨_, vs, rfl, HO.out, HBL.out, HB.out⟩
end Go.Proofs.YthfpfakdchhodaaDoor
