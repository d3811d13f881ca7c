/- 'append(b, s..)' of a string's bytes. -/
import Derived.Test.YthfpfakdchhodaaDoorWords
import Derived.Lib.LazyBuf
namespace Go.Proofs.YthfpfakdchhodaaDoor
open Go.ChangeShapes Go.WideShapes Go.ChangeAt Go.RowKit
set_option linter.unusedVariables false
section
variable {P : Program}
theorem first_str (W : World) (l : List UInt8) : (Builtin.firstCells 1 l.length (.string (S l))).run P W = .ok (cells8 l).toArray W := by
  have h : ((S l).extract 0 l.length).data = l.toArray := by rw [S_extract]; simp [S]
  simp only [Builtin.firstCells, Sem.run_pure, h]
  simp [cells8]

theorem run_append_str {t st ty e : TypeId} {bytes base : Nat} (el : Elem P t e 1 bytes) (hst : P.underlying st = some .string) {w : World} {v : Value} {n : Nat} {xs : List Value} (hown : w.ownsRow base e 1 v n xs)
    (l : List UInt8) (hn : (n + l.length) * bytes ≤ 140737488355328) (h63 : n + l.length ≤ maxLen) (hbase : base ≤ w.heap.size) :
    ∃ v' w', (Builtin.append_ #[t, st] ty #[v, .string (S l)]).run P w = .ok v' w' ∧ w'.ownsRow base e 1 v' (n + l.length) (xs ++ cells8 l) ∧ w.grownBy w' v.ownBlock ∧ (v'.ownBlock = v.ownBlock ∨ v'.ownBlock = some w.heap.size) := by
  obtain ⟨i, z, hi, hz, hsize, hby, hzs⟩ := el.hi
  have hSz := S_size l
  have hL := cells8_length l
  have hsmall : n + l.length ≤ 9223372036854775807 := by simp only [maxLen] at h63; omega
  have hlen : (xs ++ cells8 l).length = n + l.length := by rw [List.length_append, hL, hown.1, Nat.mul_one]
  have grown : ∀ (old : Nat), old < n + l.length → ∀ (row : Option Nat),
      (w.drew.alloc (.cells (xs.toArray ++ (cells8 l).toArray ++ Builtin.zeroCells z.cells (grownCap w (n + l.length) old e - (n + l.length))) e)).ownsRow base e 1
        (.slice (some ⟨w.heap.size, 0, none⟩) (n + l.length) (grownCap w (n + l.length) old e)) (n + l.length) (xs ++ cells8 l) ∧
      w.grownBy (w.drew.alloc (.cells (xs.toArray ++ (cells8 l).toArray ++ Builtin.zeroCells z.cells (grownCap w (n + l.length) old e - (n + l.length))) e)) row := by
    intro old ho row
    have hge := grownCap_ge w (n + l.length) old e
    have hcm : grownCap w (n + l.length) old e ≤ maxLen := grownCap_le_maxLen w (n + l.length) old e h63
    refine ⟨⟨by rw [hlen, Nat.mul_one], .inr ⟨w.heap.size, _, _, rfl, hbase, heap_alloc_new w.drew _, hge, hcm, ?_, ?_⟩⟩, ⟨rfl, rfl, rfl, by simp, fun k hk _ => heap_alloc_old w.drew _ hk⟩⟩
    · have := hown.1
      simp only [Array.size_append, List.size_toArray, size_zeroCells, hzs, this, hL, Nat.mul_one]
      omega
    · simp only [Array.toList_append, List.append_assoc, Nat.mul_one]
      rw [← List.append_assoc, ← hlen]
      exact List.take_left
  have growRun : ∀ (A : Option Addr) (cap : Nat), v = .slice A n cap → (∀ W, W.heap = w.heap → (Builtin.firstCells 1 n v).run P W = .ok xs.toArray W) → cap < n + l.length →
      (Builtin.append_ #[t, st] ty #[v, .string (S l)]).run P w = .ok (.slice (some ⟨w.heap.size, 0, none⟩) (n + l.length) (grownCap w (n + l.length) cap e)) (w.drew.alloc (.cells (xs.toArray ++ (cells8 l).toArray ++ Builtin.zeroCells z.cells (grownCap w (n + l.length) cap e - (n + l.length))) e)) := by
    rintro A cap rfl hfo hc
    have hnn : ¬ (n + l.length ≤ cap) := by omega
    have h63' : ¬ (9223372036854775807 < ((n : Int) + (l.length : Int))) := by omega
    have h48' : ¬ (281474976710656 < Builtin.nextslicecap (n + l.length) cap * i.bytes) := by
      have := growslice_fits (need := n + l.length) (old := cap) (bytes := i.bytes) hc (by rw [hby]; exact hn)
      omega
    have hf := first_str (P := P) w.drew l
    have hfo' := hfo w.drew rfl
    simp [Builtin.append_, run_underlying el.ht, run_underlying hst, sizeOf, typeInfo, zeroValue, hi, hz, Builtin.lenOf, hSz, hnn, h63', h48', Question.forced, hf, hfo', hsize, newRow, grownCap]
    congr 2
    apply Array.ext'
    simp [List.append_assoc]
  rcases hown.2 with ⟨rfl, rfl⟩ | ⟨g, cap, cur, rfl, hbg, hg, hnc, hcm, hcs, htake⟩
  · have hx : xs = [] := List.eq_nil_of_length_eq_zero (by simpa using hown.1)
    subst hx
    by_cases hm : l.length = 0
    · have hl : l = [] := List.eq_nil_of_length_eq_zero hm
      subst hl
      refine ⟨.slice none 0 0, w, ?_, World.ownsRow_nil w base e 1, ⟨rfl, rfl, rfl, Nat.le_refl _, fun _ _ _ => rfl⟩, .inl rfl⟩
      have hf := first_str (P := P) w []
      simp [Builtin.append_, run_underlying el.ht, run_underlying hst, sizeOf, typeInfo, hi, Builtin.lenOf, hSz, hsize, cells8] at hf ⊢
      simp [hf]
    · have hr := growRun none 0 rfl (fun W _ => by simp [Builtin.firstCells]) (by omega)
      have hgr := grown 0 (by omega) (Value.ownBlock (.slice none 0 0))
      exact ⟨_, _, hr, hgr.1, hgr.2, .inr rfl⟩
  · by_cases hroom : n + l.length ≤ cap
    · have hst2 := run_storeCells_at P g n e (cells8 l) 0 cur w hg (by rw [hL]; omega) (cells8_one l)
      simp only [Nat.add_zero] at hst2
      have hf := first_str (P := P) w l
      refine ⟨.slice (some ⟨g, 0, none⟩) (n + l.length) cap, w.setRow g (cur.toList.take n ++ cells8 l ++ cur.toList.drop (n + (cells8 l).length)).toArray, ?_, ⟨by rw [hlen, Nat.mul_one], .inr ⟨g, cap, _, rfl, hbg, setRow_heap w g cur _ e _ hg, hroom, hcm, ?_, ?_⟩⟩, ⟨rfl, rfl, rfl, by simp, fun k _ hk => setRow_other w g k _ (fun e => hk (by simp [Value.ownBlock, e]))⟩, .inl rfl⟩
      · simp [Builtin.append_, run_underlying el.ht, run_underlying hst, sizeOf, typeInfo, hi, Builtin.lenOf, hSz, hroom, hf, hsize, Addr.add_lit, hst2]
      · simp only [List.size_toArray, List.length_append, List.length_take, List.length_drop, Array.length_toList, hL]
        omega
      · have ht : cur.toList.take n = xs := by rw [← htake, Nat.mul_one]
        rw [ht, Nat.mul_one, ← hlen]
        exact List.take_left
    · have holds : ∀ j u, xs[j]? = some u → w.cell? ((⟨g, 0, none⟩ : Addr).add j) = some u := hown.cells (g := g) rfl
      have hr := growRun (some ⟨g, 0, none⟩) cap rfl (fun W hW => run_firstCells_some (P := P) W 1 n ⟨g, 0, none⟩ n cap xs hown.1 (fun j u hj => by have := holds j u hj; unfold World.cell? at this ⊢; rw [hW]; exact this)) (by omega)
      have hgr := grown cap (by omega) (Value.ownBlock (.slice (some ⟨g, 0, none⟩) n cap))
      exact ⟨_, _, hr, hgr.1, hgr.2, .inr rfl⟩

theorem wpList_append_str {w : World} {ops : Array Oper} {rest : List Oper} {o : Oper} {a : Act} {Q : Exit → Act → World → Prop} {t st e : TypeId} {bytes base : Nat} (el : Elem P t e 1 bytes) (hst : P.underlying st = some .string) (hgd : o.guard = none) (s x : Operand)
    (ho : o.op = .call { callee := .builtin .append, args := #[s, x], argTypes := #[t, st] })
    {v : Value} {n : Nat} {xs : List Value} (hs : a.eval s = v) (hown : w.ownsRow base e 1 v n xs)
    {l : List UInt8} (hx : a.eval x = .string (S l)) (hn : (n + l.length) * bytes ≤ 140737488355328) (h63 : n + l.length ≤ maxLen) (hbase : base ≤ w.heap.size)
    (h : ∀ v' w', w'.ownsRow base e 1 v' (n + l.length) (xs ++ cells8 l) → w.grownBy w' v.ownBlock → Below base w w' → (v'.ownBlock = v.ownBlock ∨ v'.ownBlock = some w.heap.size) → wpList P ops Q rest (a.put o.dst v') w') : wpList P ops Q (o :: rest) a w := by
  refine wpList_plain hgd fun K hK => ?_
  obtain ⟨v', w', hrun, h2, h3, h4⟩ := run_append_str (ty := o.type) el hst hown l hn h63 hbase
  unfold Oper.wp execOp
  simp only [ho, resolve, invoke, builtin, Sem.run_bind, Sem.run_pure, Result.andThen_ok, List.map_toArray, List.map_cons, List.map_nil, hs, hx, hrun]
  exact hK _ _ (h v' w' h2 h3 (own_below hown h3 hbase) h4)
end
/-! A slice of bytes beside nil. -/
theorem eql_nil (A : Option Addr) (n c : Nat) (W : World) : (binOp .eql 48 (.slice A n c) (.slice none 0 0)).run Tryd.prog W = .ok (.bool A.isNone) W :=
  Go.run_eql_slice_nil W _ _ A n c Tryd.underlying48
theorem neq_nil (A : Option Addr) (n c : Nat) (W : World) : (binOp .neq 48 (.slice A n c) (.slice none 0 0)).run Tryd.prog W = .ok (.bool (!A.isNone)) W :=
  Go.run_neq_slice_nil W _ _ A n c Tryd.underlying48
end Go.Proofs.YthfpfakdchhodaaDoor
