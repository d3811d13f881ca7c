/- Words for memory and the row's last step that the texts of this seat share: a slice that reads as a list ('Sl'), the post-condition of a law out of 'Below', arguments opened. No function of the program is walked here. -/
import Derived.Test.YthfpfakdchhodaaDoorRows
import Derived.WalkKit
import Derived.WalkLawsBesides
import Derived.WalkSpells
import Derived.ProofKit
import Derived.OpenShut
import Derived.Lib.Hide
import Derived.Lib.ConvBytes
import Derived.Laws.IdiomStrings
import Derived.Deep.QuietTactic
import Derived.Deep.AppendLies
import Derived.Deep.Light
import Derived.Maps.AppendAt
import Derived.BigQuiet
import Derived.Outline
import Derived.ShutString
import Derived.ChangeOld
import Derived.ChangeSame
import Derived.Below
import Derived.SliceStrings
import Derived.Carry
import Derived.Handy
import Derived.Deep.MidRow
namespace Go.Proofs.YthfpfakdchhodaaDoor
open Go.RowKit Go.ChangeShapes Go.WideShapes Go.ChangeAt
open Go.ChangeMaps (open_string shut_string)
set_option linter.unusedVariables false

theorem hide {p : Prop} (h : p) : Hid p := h
theorem ret_int {k : IntKind} {a b : Int} (h : a = b) : Ending.returned (.int k a) = .returned (.int k b) := by rw [h]
theorem ret_bool {a b : Bool} (h : a = b) : Ending.returned (.bool a) = .returned (.bool b) := by rw [h]

theorem keep_cell {w w' : World} {a : Addr} {v : Value} (hb : Below w.heap.size w w') (h : w.cell? a = some v) : w'.cell? a = some v := (hb.cell (World.block_lt_of_cell? w a h)).trans h

/-! ### A slice value's cells: 'Sl w A xs': from the address A on lie the cells xs (nothing is asked of A where xs is empty). -/
def Sl (w : World) (A : Option Addr) (xs : List Value) : Prop :=
  ∀ k v, xs[k]? = some v → ∃ b off, A = some ⟨b, off, none⟩ ∧ w.cell? ⟨b, off + k, none⟩ = some v

section
variable {w w' : World} {A : Option Addr} {xs : List Value}
theorem Sl.nil_ (w : World) (A : Option Addr) : Sl w A [] := fun k v h => by simp at h
theorem Sl.below (h : Sl w A xs) (hb : Below w.heap.size w w') : Sl w' A xs := fun k v hk => by
  obtain ⟨b, off, e, hc⟩ := h k v hk
  exact ⟨b, off, e, (hb.cell (p := ⟨b, off + k, none⟩) (World.block_lt_of_cell? w _ hc)).trans hc⟩
theorem Sl.keep {B : Nat} (h : Sl w A xs) (hb : Below B w w') (hB : ∀ b off, A = some ⟨b, off, none⟩ → b < B) : Sl w' A xs := fun k v hk => by
  obtain ⟨b, off, e, hc⟩ := h k v hk
  exact ⟨b, off, e, (hb.cell (p := ⟨b, off + k, none⟩) (hB b off e)).trans hc⟩
theorem Sl.drew (h : Sl w A xs) : Sl w.drew A xs := h
theorem Sl.of_cells {b off : Nat} (h : ∀ k v, xs[k]? = some v → w.cell? ⟨b, off + k, none⟩ = some v) : Sl w (some ⟨b, off, none⟩) xs := fun k v hk => ⟨b, off, rfl, h k v hk⟩
theorem Sl.of_own {base n c size : Nat} {e : TypeId} (h : w.ownsRow base e size (.slice A n c) n xs) : Sl w A xs := fun k v hk => by
  rcases h.2 with ⟨hv, hn⟩ | ⟨g, cap, cur, hv, _, _⟩
  · exfalso
    have h1 := h.1
    rw [hn] at h1
    have : xs = [] := List.eq_nil_of_length_eq_zero (by simpa using h1)
    subst this
    simp at hk
  · have hA : A = some ⟨g, 0, none⟩ := by injection hv
    subst hA
    refine ⟨g, 0, rfl, ?_⟩
    have := h.cells (g := g) rfl k v hk
    have hadd : (⟨g, 0, none⟩ : Addr).add k = ⟨g, 0 + k, none⟩ := by unfold Addr.add; split <;> simp_all
    rwa [hadd] at this
end

/-! ### The row's last step, of every law: it answers true, and below the old heap nothing has turned. -/
section
variable {H : Type} {enc : TypeId × Value → H} {P : Program}
theorem trodAll_below (hl : laidOutB P = true) {W W' : World} (hb : Below W.heap.size W W') : ∀ (ts : List TypeId) (vs : List Value) (ds : List (DataW H)) (ps : List MemPlace),
    (ts.all fun t => P.readableRec t && decide (t < P.types.size)) = true → DataW.TrodAll enc P W 0 (fun _ => true) true ts vs ds ps → (∀ x ∈ ps, x.block < W.heap.size) →
    DataW.TrodAll enc P W' 0 (fun b => decide (b < W.heap.size)) true ts vs ds ps
  | [], [], [], ps, _, h, _ => h
  | t :: ts, v :: vs, d :: ds, ps, ht, h, hlt => by
    obtain ⟨p, q, h1, h2, rfl⟩ := h
    simp only [List.all_cons, Bool.and_eq_true, decide_eq_true_eq] at ht
    exact ⟨p, q, Below.trod hl ht.1.1 ht.1.2 h1 hb (fun x hx => hlt x (by simp [hx])), trodAll_below hl hb ts vs ds q ht.2 h2 (fun x hx => hlt x (by simp [hx])), rfl⟩
  | [], [], _ :: _, _, _, h, _ => by exact h.elim
  | [], _ :: _, _, _, _, h, _ => by exact h.elim
  | _ :: _, [], _, _, _, h, _ => by exact h.elim
  | _ :: _, _ :: _, [], _, _, h, _ => by exact h.elim

theorem law_post {f : Func} {s : ChangeSpec} {tb : TypeId} {W W' : World} {args : Array Value} {ds gs : List (DataW H)} {before : List MemPlace}
    (hl : laidOutB P = true) (hts : (f.params.toList.all fun t => P.readableRec t && decide (t < P.types.size)) = true) (hres : f.resultTypes = #[tb]) (hub : P.underlying tb = some .bool) (hv : s.vars = [])
    (hW : DataW.Whole enc P f.params.toList s.vars false W args.toList ds gs before)
    (h1 : (s.fn H (ds ++ gs)).results = [.lit (.bool true)]) (h2 : (s.fn H (ds ++ gs)).args = ds) (h3 : (s.fn H (ds ++ gs)).vars = [])
    (hb : Below W.heap.size W W') : s.post enc P f false true false false W args (.bool true) W' := by
  have hlt : ∀ p ∈ before, p.block < W.heap.size := fun p hp => hW.lt p hp
  have hW' := hW
  obtain ⟨p, q, hA, hV, rfl, _, _⟩ := hW'
  refine ⟨ds, gs, p ++ q, [], p, [], hW, ?_, ?_, ?_, hb.frame _, fun h => by cases h⟩
  · rw [h1, hres]
    exact trodAll_mk1 (shut_bool hub _)
  · rw [h2]
    exact trodAll_below hl hb _ _ _ _ hts hA (fun x hx => hlt x (by simp [hx]))
  · rw [h3, hv]
    rfl
end

/-! ### Arguments opened. -/
section
variable {H : Type} {enc : TypeId × Value → H} {P : Program} {W : World} {spare : Nat → Bool} {held : Bool}
theorem addr_plain {a : Addr} {v : Value} {w : World} (h : w.cell? (a.add 0) = some v) : ∃ b off, a = ⟨b, off, none⟩ ∧ ∀ i, a.add i = ⟨b, off + i, none⟩ := by
  obtain ⟨b, off, spot⟩ := a
  have hs : spot = none := by simpa [Addr.add] using World.cell?_spot h
  subst hs
  refine ⟨b, off, rfl, fun i => ?_⟩
  unfold Addr.add
  split <;> simp_all
theorem open_ints_sl {r : Reach} {b0 : Nat} {t e : TypeId} {k : IntKind} {v : Value} {d : DataW H} {p : List MemPlace} (ht : P.underlying t = some (.slice e)) (he : P.underlying e = some (.int k)) (hc : P.cellsOf e = 1)
    (hok : Value.okWide P W r b0 t v) (h : DataW.Trod enc P W 0 (fun _ => true) held t v d p) :
    ∃ (A : Option Addr) (cap : Nat) (l : List Int), v = .slice A l.length cap ∧ l.length ≤ cap ∧ cap ≤ maxLen ∧ Sl W A (l.map (Value.int k)) ∧ (∀ n ∈ l, (Lit.int k n).wf = true) := by
  obtain ⟨a0, len, cap, rfl⟩ := okWide_slice ht hok
  obtain ⟨fuel, hf⟩ := h
  rcases open_ints ht he hc hf with ⟨hcs, hx⟩ | ⟨a, len', cap', zs, hcs, _, hl, hm, hz, hx, hcell, hwz⟩
  · simp [Value.cells] at hcs
    obtain ⟨rfl, rfl, rfl⟩ := hcs
    exact ⟨none, 0, [], rfl, by simp, by simp [maxLen], Sl.nil_ _ _, by simp⟩
  · simp [Value.cells] at hcs
    obtain ⟨rfl, rfl, rfl⟩ := hcs
    simp only [if_true] at hz
    have hlen : (zs.take len).length = len := by rw [List.length_take]; omega
    refine ⟨some a, cap, zs.take len, by rw [hlen], by omega, hm, ?_, fun n hn => hwz n (List.mem_of_mem_take hn)⟩
    intro j u hj
    have hjl : j < len := by
      have := (List.getElem?_eq_some_iff.1 hj).1
      simp at this; omega
    obtain ⟨b, off, rfl, ea⟩ := addr_plain (hcell 0 (by omega))
    have hc1 := hcell j (by omega)
    refine ⟨b, off, rfl, ?_⟩
    rw [← ea, hc1]
    rw [List.getElem?_map, List.getElem?_take, if_pos hjl] at hj
    have hjz : j < zs.length := by omega
    rw [List.getElem?_eq_getElem hjz] at hj
    simp at hj
    rw [← hj, List.getD_eq_getElem?_getD, List.getElem?_eq_getElem hjz]
    rfl
theorem open_strs_sl {r : Reach} {b0 : Nat} {t e : TypeId} {v : Value} {d : DataW H} {p : List MemPlace} (ht : P.underlying t = some (.slice e)) (he : P.underlying e = some .string) (hc : P.cellsOf e = 1)
    (hok : Value.okWide P W r b0 t v) (h : DataW.Trod enc P W 0 (fun _ => true) held t v d p) :
    ∃ (A : Option Addr) (cap : Nat) (l : List ByteArray), v = .slice A l.length cap ∧ l.length ≤ cap ∧ cap ≤ maxLen ∧ Sl W A (l.map Value.string) ∧ (∀ s ∈ l, s.size ≤ maxLen) := by
  obtain ⟨a0, len, cap, rfl⟩ := okWide_slice ht hok
  obtain ⟨fuel, hf⟩ := h
  rcases open_strings ht he hc hf with ⟨hcs, hx⟩ | ⟨a, len', cap', zs, hcs, _, hl, hm, hz, hx, hcell, hwz⟩
  · simp [Value.cells] at hcs
    obtain ⟨rfl, rfl, rfl⟩ := hcs
    exact ⟨none, 0, [], rfl, by simp, by simp [maxLen], Sl.nil_ _ _, by simp⟩
  · simp [Value.cells] at hcs
    obtain ⟨rfl, rfl, rfl⟩ := hcs
    simp only [if_true] at hz
    have hlen : (zs.take len).length = len := by rw [List.length_take]; omega
    refine ⟨some a, cap, zs.take len, by rw [hlen], by omega, hm, ?_, fun n hn => hwz n (List.mem_of_mem_take hn)⟩
    intro j u hj
    have hjl : j < len := by
      have := (List.getElem?_eq_some_iff.1 hj).1
      simp at this; omega
    obtain ⟨b, off, rfl, ea⟩ := addr_plain (hcell 0 (by omega))
    have hc1 := hcell j (by omega)
    refine ⟨b, off, rfl, ?_⟩
    rw [← ea, hc1]
    rw [List.getElem?_map, List.getElem?_take, if_pos hjl] at hj
    have hjz : j < zs.length := by omega
    rw [List.getElem?_eq_getElem hjz] at hj
    simp at hj
    rw [← hj, List.getD_eq_getElem?_getD, List.getElem?_eq_getElem hjz]
    rfl
end

/-! ### A string's bytes as numbers; the new row of a conversion to bytes. -/
def D (s : ByteArray) (j : Nat) : Nat := (s.data.toList.getD j 0).toNat
theorem D_lt (s : ByteArray) (j : Nat) : D s j < 256 := by unfold D; exact UInt8.toNat_lt _
theorem D_at (s : ByteArray) (j : Nat) (h : j < s.size) : s[j].toNat = D s j := by
  unfold D
  have h' : j < s.data.toList.length := by simpa using h
  rw [List.getD_eq_getElem?_getD, List.getElem?_eq_getElem h']
  rfl
theorem below_drewN {B : Nat} {a w : World} (h : Below B a w) (n : Nat) : Below B a (w.drewN n) := ⟨h.os, h.tape, h.output, h.size, h.block⟩
theorem bytesRow_cell (s : ByteArray) (c j : Nat) (hj : j < s.size) : (bytesRow s c)[j]? = some (.int .u8 (D s j : Int)) := by
  have h' : j < s.data.size := hj
  unfold bytesRow
  rw [Array.getElem?_append_left (by simpa using h')]
  simp only [Array.getElem?_map]
  rw [Array.getElem?_eq_getElem h']
  simp only [Option.map_some]
  rw [← D_at s j hj]
  rfl
theorem bytes_new (w : World) (s : ByteArray) (c : Nat) (e : TypeId) (fr : Nat × Nat) (j : Nat) (hj : j < s.size) : (w.alloc (.cells (bytesRow s c) e fr)).drew.cell? ⟨w.heap.size, j, none⟩ = some (.int .u8 (D s j : Int)) :=
  (World.cell?_alloc_mark w _ _ _ _).trans (bytesRow_cell s c j hj)

/-! ### append onto a row of the call's own, from whatever source (nil, empty or not). -/
/-- What append asks of an element type: its slice type's number, its own, the cells of one element, its bytes. -/
structure Elem (P : Program) (t e : TypeId) (size bytes : Nat) : Prop where
  ht : P.underlying t = some (.slice e)
  hi : ∃ i z, P.info? e = some i ∧ i.zero = some z ∧ i.size = size ∧ i.bytes = bytes ∧ z.cells.size = size
  pos : 0 < size
theorem Elem.of {P : Program} {t e : TypeId} {z : Value} {size bytes : Nat} (ht : P.underlying t = some (.slice e)) (h : (P.info? e).map (fun i => (i.zero, i.size, i.bytes)) = some (some z, size, bytes)) (hz : z.cells.size = size) (hp : 0 < size) : Elem P t e size bytes := by
  obtain ⟨i, h1, h2, h3, h4⟩ := info_parts h
  exact ⟨ht, ⟨i, z, h1, h2, h3, h4, hz⟩, hp⟩

section
variable {P : Program} {w : World}
theorem own_below {w w' : World} {base n size : Nat} {e : TypeId} {v : Value} {xs : List Value} (h : w.ownsRow base e size v n xs) (hg : w.grownBy w' v.ownBlock) (hb : base ≤ w.heap.size) : Below base w w' :=
  (Below.refl _ _).grown hg hb (fun k hk => (h.lt k hk).1)
theorem own_sl {w : World} {base n size : Nat} {e : TypeId} {v : Value} {xs : List Value} (h : w.ownsRow base e size v n xs) : ∃ A cap, v = .slice A n cap ∧ Sl w A xs ∧ n ≤ cap ∧ cap ≤ maxLen := by
  have h0 := h
  rcases h.2 with ⟨rfl, rfl⟩ | ⟨g, cap, cur, rfl, _, _, h1, h2, _⟩
  · exact ⟨none, 0, rfl, Sl.of_own h0, Nat.le_refl _, by simp [maxLen]⟩
  · exact ⟨_, cap, rfl, Sl.of_own h0, h1, h2⟩

theorem own_sl' {w : World} {base n size : Nat} {e : TypeId} {v : Value} {xs : List Value} (h : w.ownsRow base e size v n xs) : ∃ A cap, v = .slice A n cap ∧ Sl w A xs ∧ n ≤ cap ∧ cap ≤ maxLen ∧ (∀ b off, A = some ⟨b, off, none⟩ → base ≤ b ∧ off = 0) := by
  have h0 := h
  rcases h.2 with ⟨rfl, rfl⟩ | ⟨g, cap, cur, rfl, hb, _, h1, h2, _⟩
  · exact ⟨none, 0, rfl, Sl.of_own h0, Nat.le_refl _, by simp [maxLen], fun b off e => by cases e⟩
  · refine ⟨_, cap, rfl, Sl.of_own h0, h1, h2, fun b off e => ?_⟩
    injection e with e
    injection e with e1 e2
    omega
theorem Sl.setCell_far {w : World} {A : Option Addr} {xs : List Value} (h : Sl w A xs) {p : Addr} (hg : ∀ b off, A = some ⟨b, off, none⟩ → b ≠ p.block) (u : Value) : Sl (w.setCell p u) A xs := fun k v hk => by
  obtain ⟨b, off, e, hc⟩ := h k v hk
  refine ⟨b, off, e, ?_⟩
  rw [World.cell?_setCell_other w p ⟨b, off + k, none⟩ u (fun e2 => hg b off e (by rw [e2]))]
  exact hc
theorem own_form {w : World} {base n size : Nat} {e : TypeId} {v : Value} {xs : List Value} (h : w.ownsRow base e size v n xs) (hn : 0 < n) : ∃ g cap, v = .slice (some ⟨g, 0, none⟩) n cap ∧ n ≤ cap ∧ cap ≤ maxLen ∧ base ≤ g ∧ g < w.heap.size := by
  rcases h.2 with ⟨_, rfl⟩ | ⟨g, cap, cur, rfl, hb, hg, h1, h2, _⟩
  · omega
  · exact ⟨g, cap, rfl, h1, h2, hb, (Array.getElem?_eq_some_iff.1 hg).1⟩

theorem run_append_nil {t ty e : TypeId} {size bytes base : Nat} (el : Elem P t e size bytes) {v : Value} {n : Nat} {xs : List Value} (hown : w.ownsRow base e size v n xs) (c : Nat) :
    (Builtin.append_ #[t, t] ty #[v, .slice none 0 c]).run P w = .ok v w := by
  obtain ⟨i, z, hi, _⟩ := el.hi
  rcases hown.2 with ⟨rfl, rfl⟩ | ⟨g, cap, cur, rfl, _, _, hnc, _⟩
  · simp [Builtin.append_, run_underlying el.ht, sizeOf, typeInfo, hi, Builtin.lenOf, Builtin.firstCells]
  · simp [Builtin.append_, run_underlying el.ht, sizeOf, typeInfo, hi, Builtin.lenOf, Builtin.firstCells, hnc, storeCells]

theorem sl_len_zero {A : Option Addr} {news : List Value} (h : Sl w A news) (hA : A = none) : news = [] := by
  cases news with
  | nil => rfl
  | cons x l =>
    obtain ⟨b, off, e, _⟩ := h 0 x rfl
    rw [hA] at e
    cases e

theorem run_append_sl {t ty e : TypeId} {size bytes base : Nat} (el : Elem P t e size bytes) {v : Value} {n : Nat} {xs : List Value} (hown : w.ownsRow base e size v n xs)
    {A : Option Addr} {m c : Nat} {news : List Value} (hl : news.length = m * size) (hr : Sl w A news) (h1 : ∀ u ∈ news, u.oneCell' = true)
    (hn : (n + m) * bytes ≤ 140737488355328) (h63 : n + m ≤ maxLen) (hbase : base ≤ w.heap.size) :
    ∃ v' w', (Builtin.append_ #[t, t] ty #[v, .slice A m c]).run P w = .ok v' w' ∧ w'.ownsRow base e size v' (n + m) (xs ++ news) ∧ w.grownBy w' v.ownBlock ∧ (v'.ownBlock = v.ownBlock ∨ v'.ownBlock = some w.heap.size) := by
  have hpos := el.pos
  have nilcase : news = [] → A = none → ∃ v' w', (Builtin.append_ #[t, t] ty #[v, .slice A m c]).run P w = .ok v' w' ∧ w'.ownsRow base e size v' (n + m) (xs ++ news) ∧ w.grownBy w' v.ownBlock ∧ (v'.ownBlock = v.ownBlock ∨ v'.ownBlock = some w.heap.size) := by
    rintro rfl rfl
    have hm : m = 0 := by
      rcases Nat.eq_zero_or_pos m with h | h
      · exact h
      · have := Nat.mul_pos h hpos; simp at hl; omega
    subst hm
    exact ⟨v, w, run_append_nil el hown c, by simpa using hown, World.grownBy.refl w _, .inl rfl⟩
  cases A with
  | none => exact nilcase (sl_len_zero hr rfl) rfl
  | some ad =>
    obtain ⟨i, z, hi, hz, hs, hb, hzs⟩ := el.hi
    have hcells : ∀ j u, news[j]? = some u → w.cell? (ad.add j) = some u := by
      intro j u hu
      obtain ⟨b, off, e1, hc⟩ := hr j u hu
      injection e1 with e1
      subst e1
      have hadd : (⟨b, off, none⟩ : Addr).add j = ⟨b, off + j, none⟩ := by unfold Addr.add; split <;> simp_all
      rw [hadd]; exact hc
    obtain ⟨v', w', hrun, h2, h3, _, h5⟩ := run_append_own_at (P := P) w base t ty e i z size bytes el.ht hi hz hs hb hzs hpos v n xs hown ad m c news hl hcells h1 h63 hn hbase
    exact ⟨v', w', hrun, h2, h3, h5⟩

theorem wpList_append {ops : Array Oper} {rest : List Oper} {o : Oper} {a : Act} {Q : Exit → Act → World → Prop} {t e : TypeId} {size bytes base : Nat} (el : Elem P t e size bytes) (hgd : o.guard = none) (s x : Operand)
    (ho : o.op = .call { callee := .builtin .append, args := #[s, x], argTypes := #[t, t] })
    {v : Value} {n : Nat} {xs : List Value} (hs : a.eval s = v) (hown : w.ownsRow base e size v n xs)
    {A : Option Addr} {m c : Nat} {news : List Value} (hx : a.eval x = .slice A m c) (hl : news.length = m * size) (hr : Sl w A news) (h1 : ∀ u ∈ news, u.oneCell' = true)
    (hn : (n + m) * bytes ≤ 140737488355328) (h63 : n + m ≤ maxLen) (hbase : base ≤ w.heap.size)
    (h : ∀ v' w', w'.ownsRow base e size v' (n + m) (xs ++ news) → w.grownBy w' v.ownBlock → Below base w w' → (v'.ownBlock = v.ownBlock ∨ v'.ownBlock = some w.heap.size) → wpList P ops Q rest (a.put o.dst v') w') : wpList P ops Q (o :: rest) a w := by
  refine wpList_plain hgd fun K hK => ?_
  obtain ⟨v', w', hrun, h2, h3, h4⟩ := run_append_sl (ty := o.type) el hown hl hr h1 hn h63 hbase (c := c)
  unfold Oper.wp execOp
  simp only [ho, resolve, invoke, builtin, Sem.run_bind, Sem.run_pure, Result.andThen_ok, List.map_toArray, List.map_cons, List.map_nil, hs, hx, hrun]
  exact hK _ _ (h v' w' h2 h3 (own_below hown h3 hbase) h4)

/-- 'append(v, x ..)' where the new elements were just laid in a block of their own. -/
theorem sl_new (w : World) (cs : Array Value) (t : TypeId) (fr : Nat × Nat) : Sl (w.alloc (.cells cs t fr)) (some ⟨w.heap.size, 0, none⟩) cs.toList := by
  refine Sl.of_cells fun k v hk => ?_
  rw [Nat.zero_add, World.cell?_alloc_mark]
  simpa using hk
theorem wpList_append_lit {w0 : World} {ops : Array Oper} {rest : List Oper} {o : Oper} {a : Act} {Q : Exit → Act → World → Prop} {t e : TypeId} {size bytes base : Nat} (el : Elem P t e size bytes) (hgd : o.guard = none) (s x : Operand)
    (ho : o.op = .call { callee := .builtin .append, args := #[s, x], argTypes := #[t, t] })
    {v : Value} {n : Nat} {xs : List Value} (hs : a.eval s = v) (hown : w0.ownsRow base e size v n xs)
    {m c : Nat} {cs : Array Value} {te : TypeId} {fr : Nat × Nat} (hx : a.eval x = .slice (some ⟨w0.heap.size, 0, none⟩) m c) (hl : cs.size = m * size) (h1 : ∀ u ∈ cs.toList, u.oneCell' = true)
    (hn : (n + m) * bytes ≤ 140737488355328) (h63 : n + m ≤ maxLen) (hbase : base ≤ w0.heap.size)
    (h : ∀ v' w', w'.ownsRow base e size v' (n + m) (xs ++ cs.toList) → Below base w0 w' → (v'.ownBlock = v.ownBlock ∨ (∀ g, v'.ownBlock = some g → w0.heap.size ≤ g)) → wpList P ops Q rest (a.put o.dst v') w') : wpList P ops Q (o :: rest) a (w0.alloc (.cells cs te fr)) := by
  refine wpList_append el hgd s x ho hs (hown.alloc _) hx (by simpa using hl) (sl_new w0 cs te fr) h1 hn h63 (Nat.le_trans hbase (by simp)) fun v' w' h2 h3 h4 h5 => ?_
  refine h v' w' h2 (((Below.refl _ _).alloc hbase _).trans h4) ?_
  rcases h5 with h5 | h5
  · exact .inl h5
  · exact .inr fun g hg => by rw [h5] at hg; injection hg with hg; simp at hg; omega
end

/-! ### A block that is known whole. -/
/-- block g is just the cells cs of element type t, none frozen -/
def Blk (w : World) (g : Nat) (t : TypeId) (cs : List Value) : Prop := w.heap[g]? = some (.cells cs.toArray t (0, 0))
section
variable {w w' : World} {g : Nat} {t : TypeId} {cs : List Value}
theorem Blk.lt (h : Blk w g t cs) : g < w.heap.size := (Array.getElem?_eq_some_iff.1 h).1
theorem Blk.cell (h : Blk w g t cs) (i : Nat) : w.cell? ⟨g, i, none⟩ = cs[i]? := by
  have := cell_of_row w g i cs.toArray t (0, 0) h
  simpa using this
theorem Blk.frozen (h : Blk w g t cs) (i : Nat) : w.frozen? ⟨g, i, none⟩ = false := by
  unfold Blk at h
  simp [World.frozen?, h]
theorem Blk.set_ (h : Blk w g t cs) (i : Nat) (u : Value) : Blk (w.setCell ⟨g, i, none⟩ u) g t (cs.set i u) := by
  unfold Blk at h ⊢
  simp [World.setCell, Array.getElem?_modify, h]
theorem Blk.alloc (h : Blk w g t cs) (o : Obj) : Blk (w.alloc o) g t cs := (Below.heap_alloc w o g h.lt).trans h
theorem Blk.below {B : Nat} (h : Blk w g t cs) (hb : Below B w w') (hg : g < B) : Blk w' g t cs := (hb.block g hg).trans h
theorem Blk.grown {row : Option Nat} (h : Blk w g t cs) (hb : w.grownBy w' row) (hg : some g ≠ row) : Blk w' g t cs := (hb.block g h.lt hg).trans h
theorem Blk.far (h : Blk w g t cs) {p : Addr} (hp : g ≠ p.block) (u : Value) : Blk (w.setCell p u) g t cs := (Below.heap_setCell w p u g hp).trans h
theorem Blk.drew (h : Blk w g t cs) : Blk w.drew g t cs := h
theorem Blk.drewN (h : Blk w g t cs) (n : Nat) : Blk (w.drewN n) g t cs := h
theorem Blk.new (w : World) (t : TypeId) (cs : List Value) : Blk (w.alloc (.cells cs.toArray t)) w.heap.size t cs := heap_alloc_new w _
theorem Blk.new_at (g : Nat) (hg : w.heap.size = g) (t : TypeId) (cs : List Value) : Blk (w.alloc (.cells cs.toArray t)) g t cs := by
  subst hg
  exact Blk.new w t cs
theorem Blk.of_own {base n c : Nat} {xs : List Value} (h : w.ownsRow base t 1 (.slice (some ⟨g, 0, none⟩) n c) n xs) : ∃ rest, Blk w g t (xs ++ rest) ∧ xs.length = n := by
  rcases h.2 with ⟨hv, _⟩ | ⟨g', cap, cur, hv, _, hg, _, _, _, ht⟩
  · cases hv
  · injection hv with h1 _ _
    injection h1 with h1
    injection h1 with h1
    subst h1
    refine ⟨cur.toList.drop (n * 1), ?_, by have := h.1; omega⟩
    unfold Blk
    rw [hg, ← ht, List.take_append_drop]
theorem Blk.to_own {base n c : Nat} {xs rest : List Value} (h : Blk w g t (xs ++ rest)) (hb : base ≤ g) (hn : xs.length = n) (hc : (xs ++ rest).length = c) (hm : c ≤ maxLen) : w.ownsRow base t 1 (.slice (some ⟨g, 0, none⟩) n c) n xs := by
  refine ⟨by omega, .inr ⟨g, c, (xs ++ rest).toArray, rfl, hb, h, by simp at hc; omega, hm, by simpa using hc, ?_⟩⟩
  rw [Nat.mul_one, ← hn]
  exact List.take_left
theorem Blk.sl (h : Blk w g t cs) {off : Nat} {xs : List Value} (hx : ∀ k v, xs[k]? = some v → cs[off + k]? = some v) : Sl w (some ⟨g, off, none⟩) xs := Sl.of_cells fun k v hk => (h.cell _).trans (hx k v hk)
end

/-! ### 'w' is w but for new blocks and block g'. -/
theorem only_drewN {a w : World} {row : Option Nat} (h : a.grownBy w row) (n : Nat) : a.grownBy (w.drewN n) row := ⟨h.os, h.tape, h.output, h.size, h.block⟩
theorem only_drew {a w : World} {row : Option Nat} (h : a.grownBy w row) : a.grownBy w.drew row := ⟨h.os, h.tape, h.output, h.size, h.block⟩
theorem only_alloc {a w : World} {row : Option Nat} (h : a.grownBy w row) (o : Obj) : a.grownBy (w.alloc o) row :=
  ⟨h.os, h.tape, h.output, Nat.le_trans h.size (by simp), fun i hi hne => (Below.heap_alloc w o i (Nat.lt_of_lt_of_le hi h.size)).trans (h.block i hi hne)⟩
theorem only_setCell {a w : World} {g : Nat} (h : a.grownBy w (some g)) {p : Addr} (hp : p.block = g ∨ a.heap.size ≤ p.block) (u : Value) : a.grownBy (w.setCell p u) (some g) :=
  ⟨h.os, h.tape, h.output, by simpa [World.setCell] using h.size, fun i hi hne => (Below.heap_setCell w p u i (by
    rintro rfl
    rcases hp with hp | hp
    · exact hne (by rw [hp])
    · omega)).trans (h.block i hi hne)⟩
theorem only_below {a w w' : World} {row : Option Nat} (h : a.grownBy w row) {B : Nat} (hb : Below B w w') (hB : a.heap.size ≤ B) : a.grownBy w' row :=
  ⟨hb.os.trans h.os, hb.tape.trans h.tape, hb.output.trans h.output, Nat.le_trans h.size hb.size, fun i hi hne => (hb.block i (Nat.lt_of_lt_of_le hi hB)).trans (h.block i hi hne)⟩
theorem only_trans {a w w' : World} {row : Option Nat} (h : a.grownBy w row) (k : w.grownBy w' row) : a.grownBy w' row :=
  ⟨k.os.trans h.os, k.tape.trans h.tape, k.output.trans h.output, Nat.le_trans h.size k.size, fun i hi hne => (k.block i (Nat.lt_of_lt_of_le hi h.size) hne).trans (h.block i hi hne)⟩
theorem only_trans' {a w w' : World} {row row' : Option Nat} (h : a.grownBy w row) (k : w.grownBy w' row') (hr : ∀ g, row' = some g → a.heap.size ≤ g) : a.grownBy w' row :=
  ⟨k.os.trans h.os, k.tape.trans h.tape, k.output.trans h.output, Nat.le_trans h.size k.size, fun i hi hne => (k.block i (Nat.lt_of_lt_of_le hi h.size) (fun e => by have := hr i e.symm; omega)).trans (h.block i hi hne)⟩
theorem only_of_below {a w : World} (h : Below a.heap.size a w) (row : Option Nat) : a.grownBy w row := ⟨h.os, h.tape, h.output, h.size, fun i hi _ => h.block i hi⟩
theorem only_refl (a : World) (row : Option Nat) : a.grownBy a row := World.grownBy.refl a row
theorem below_only {B g : Nat} {a w w' : World} (h : Below B a w) (k : w.grownBy w' (some g)) (hB : B ≤ w.heap.size) (hg : B ≤ g) : Below B a w' := h.grown k hB (fun _ e => by injection e with e; omega)
theorem Sl.only {w w' : World} {A : Option Addr} {xs : List Value} {g : Nat} (h : Sl w A xs) (hk : w.grownBy w' (some g)) (hg : ∀ b off, A = some ⟨b, off, none⟩ → b ≠ g) : Sl w' A xs := fun k v hkv => by
  obtain ⟨b, off, e, hc⟩ := h k v hkv
  refine ⟨b, off, e, ?_⟩
  rw [World.cell?_of_block (w := w) (hk.block b (World.block_lt_of_cell? w _ hc) (fun e2 => hg b off e (by injection e2)))]
  exact hc
theorem Sl.only_at {w w' : World} {b off : Nat} {xs : List Value} {g : Nat} (h : Sl w (some ⟨b, off, none⟩) xs) (hk : w.grownBy w' (some g)) (hg : b ≠ g) : Sl w' (some ⟨b, off, none⟩) xs :=
  h.only hk (fun b' o' e => by injection e with e; injection e with e; subst e; exact hg)
/-- the first m, and what is behind the first m, of a slice's cells -/
theorem Sl.take {w : World} {A : Option Addr} {xs : List Value} (h : Sl w A xs) (m : Nat) : Sl w A (xs.take m) := fun k v hk => by
  rw [List.getElem?_take] at hk
  split at hk
  · exact h k v hk
  · cases hk
theorem Sl.drop {w : World} {b off : Nat} {xs : List Value} (h : Sl w (some ⟨b, off, none⟩) xs) (m : Nat) : Sl w (some ⟨b, off + m, none⟩) (xs.drop m) := fun k v hk => by
  rw [List.getElem?_drop] at hk
  obtain ⟨b', off', e, hc⟩ := h (m + k) v hk
  injection e with e
  injection e with e1 e2
  subst e1 e2
  exact ⟨b, off + m, rfl, by rw [Nat.add_assoc]; exact hc⟩
theorem ownsRow_empty (w : World) (e : TypeId) (size base : Nat) (hb : base ≤ w.heap.size) : (w.alloc (.cells #[] e)).ownsRow base e size (.slice (some ⟨w.heap.size, 0, none⟩) 0 0) 0 [] :=
  World.ownsRow_made w #[] 0 hb (by simp [maxLen]) (by simp)

theorem ownsRow_empty_at (w : World) (g : Nat) (e : TypeId) (size base : Nat) (hg : w.heap.size = g) (hb : base ≤ g) : (w.alloc (.cells #[] e)).ownsRow base e size (.slice (some ⟨g, 0, none⟩) 0 0) 0 [] := by
  subst hg
  exact ownsRow_empty w e size base hb

/-! ### A struct stored into, and read out of, a block that is known whole. -/
theorem Blk.setCells {b : Nat} {t : TypeId} : ∀ (vs vs' : List Value) (w : World) (pre post : List Value), Blk w b t (pre ++ vs' ++ post) → vs.length = vs'.length → Blk (w.setCells b pre.length vs) b t (pre ++ vs ++ post)
  | [], [], w, pre, post, h, _ => h
  | v :: vs, v' :: r, w, pre, post, h, hl => by
    have h1 := h.set_ pre.length v
    have e1 : (pre ++ v' :: r ++ post).set pre.length v = (pre ++ [v]) ++ r ++ post := by simp
    rw [e1] at h1
    have h2 := Blk.setCells vs r _ (pre ++ [v]) post h1 (by simpa using hl)
    have e2 : (pre ++ [v]).length = pre.length + 1 := by simp
    rw [e2] at h2
    have e3 : pre ++ [v] ++ vs ++ post = pre ++ v :: vs ++ post := by simp
    rw [e3] at h2
    exact h2
  | [], _ :: _, _, _, _, _, hl => by simp at hl
  | _ :: _, [], _, _, _, _, hl => by simp at hl
theorem only_setCells {a w : World} {b : Nat} (h : a.grownBy w (some b)) : ∀ (vs : List Value) (o : Nat), a.grownBy (w.setCells b o vs) (some b) := by
  intro vs
  induction vs generalizing w with
  | nil => intro o; exact h
  | cons v r ih => intro o; exact ih (only_setCell h (.inl rfl) v) (o + 1)
theorem Blk.put {w : World} {b : Nat} {t : TypeId} {cs vs : List Value} (h : Blk w b t cs) (hl : vs.length = cs.length) : Blk (w.setCells b 0 vs) b t vs := by
  have := Blk.setCells vs cs w [] [] (by simpa using h) hl
  simpa using this
theorem Blk.rangeAt {w : World} {b : Nat} {t : TypeId} {cs : List Value} (h : Blk w b t cs) : w.rangeAt b 0 cs := fun j v hj => by rw [Nat.zero_add, h.cell]; exact hj
theorem Blk.there {w : World} {b : Nat} {t : TypeId} {cs : List Value} (h : Blk w b t cs) : w.there b 0 cs.length := fun j hj => by
  rw [Nat.zero_add, h.cell]
  exact ⟨by simp [hj], h.frozen j⟩
theorem wpList_store_blk {P : Program} {ops : Array Oper} {rest : List Oper} {o : Oper} {a : Act} {w : World} {Q : Exit → Act → World → Prop} {ty t : TypeId} {b : Nat} {cs : List Value} (hb : Blk w b t cs) (hgd : o.guard = none) (x y : Operand) (ho : o.op = .store ty x y)
    (cells : Array Value) (hx : a.eval x = .pointer (some ⟨b, 0, none⟩)) (hy : a.eval y = .agg cells) (hl : cells.size = cs.length) (hi : (P.info? ty).map (·.size) = some cells.size) (h1 : cells.all (·.oneCell') = true)
    (h : ∀ w', Blk w' b t cells.toList → w.grownBy w' (some b) → wpList P ops Q rest (a.put o.dst undef) w') : wpList P ops Q (o :: rest) a w :=
  wpList_store_mid hgd ty x y ho b 0 cells hx hy (by rw [hl]; exact hb.there) hi h1 (h _ (hb.put (by simpa using hl)) (only_setCells (only_refl w _) _ _))
theorem ret_cell {P : Program} {fn : Func} {p : Tmp} {ty t : TypeId} {d : TypeDesc} {w : World} {b : Nat} {cs : List Value} {tmps : Array Value} (hb : Blk w b t cs) (h : fn.results = #[.cell p ty]) (hp : tmps.getD p undef = .pointer (some ⟨b, 0, none⟩))
    (hu : P.underlying ty = some d) (hd : d.isRow = true) (hi : (P.info? ty).map (·.size) = some cs.length) : (results fn tmps).run P w = .ok (.agg cs.toArray) w := by
  have hl := run_loadVar_mid (P := P) w b 0 ty cs d hb.rangeAt hu hd hi
  have hp' : tmps[p]?.getD undef = .pointer (some ⟨b, 0, none⟩) := by rw [← hp]; simp
  simp [results, h, hp', hl, asAddr]
theorem ret_cell_tmp {P : Program} {fn : Func} {p u : Tmp} {ty t : TypeId} {d : TypeDesc} {w : World} {b : Nat} {cs : List Value} {tmps : Array Value} (hb : Blk w b t cs) (h : fn.results = #[.cell p ty, .tmp u]) (hp : tmps.getD p undef = .pointer (some ⟨b, 0, none⟩))
    (hu : P.underlying ty = some d) (hd : d.isRow = true) (hi : (P.info? ty).map (·.size) = some cs.length) : (results fn tmps).run P w = .ok (.tuple #[.agg cs.toArray, tmps.getD u undef]) w := by
  have hl := run_loadVar_mid (P := P) w b 0 ty cs d hb.rangeAt hu hd hi
  rw [results_cell_tmp h, hp]
  simp [Result.andThen, hl, asAddr]

/-! ### Four and five results. -/
theorem results_tmp4 {fn : Func} {t u v x : Tmp} (h : fn.results = #[.tmp t, .tmp u, .tmp v, .tmp x]) (tmps : Array Value) (P : Program) (w : World) :
    (results fn tmps).run P w = .ok (.tuple #[tmps.getD t undef, tmps.getD u undef, tmps.getD v undef, tmps.getD x undef]) w := by simp [results, h]
theorem results_tmp5 {fn : Func} {t u v x y : Tmp} (h : fn.results = #[.tmp t, .tmp u, .tmp v, .tmp x, .tmp y]) (tmps : Array Value) (P : Program) (w : World) :
    (results fn tmps).run P w = .ok (.tuple #[tmps.getD t undef, tmps.getD u undef, tmps.getD v undef, tmps.getD x undef, tmps.getD y undef]) w := by simp [results, h]

theorem own : ownKnob Tryd.prog.godebug = none := by kernel_rfl
theorem laidOut : laidOutB Tryd.prog = true := by kernel_rfl
end Go.Proofs.YthfpfakdchhodaaDoor
