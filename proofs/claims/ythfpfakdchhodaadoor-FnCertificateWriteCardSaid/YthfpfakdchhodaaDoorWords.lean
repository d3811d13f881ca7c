/- The contracts of the statements' own small helpers (big, vec, framedExt, nums ..) and of the thin package's 'text': each returns the string that its plain Lean twin gives. -/
import Derived.Test.YthfpfakdchhodaaDoorBase
import Derived.Deep.OwnRows
namespace Go.Proofs.YthfpfakdchhodaaDoor
open Go.ChangeShapes Go.WideShapes Go.ChangeAt Go.RowKit
set_option linter.unusedVariables false

/-- A list of bytes as Go's string. -/
def S (l : List UInt8) : ByteArray := ⟨l.toArray⟩
theorem S_size (l : List UInt8) : (S l).size = l.length := by simp [S, ByteArray.size]
theorem S_append (a b : List UInt8) : S a ++ S b = S (a ++ b) := by
  apply ByteArray.ext
  simp [S]
theorem S_extract (l : List UInt8) (a b : Nat) : (S l).extract a b = S ((l.drop a).take (b - a)) := by
  apply ByteArray.ext
  rw [ByteArray.data_extract]
  simp [S]
theorem S_of (s : ByteArray) : S s.data.toList = s := by apply ByteArray.ext; simp [S]
theorem exS (s : ByteArray) : ∃ l, s = S l := ⟨_, (S_of s).symm⟩
theorem S_inj {a b : List UInt8} (h : S a = S b) : a = b := by
  have := congrArg (fun s : ByteArray => s.data.toList) h
  simpa [S] using this
theorem D_S (l : List UInt8) (j : Nat) : D (S l) j = (l.getD j 0).toNat := by unfold D; simp [S]

/-- The cells of bytes. -/
def cells8 (l : List UInt8) : List Value := l.map fun b => .int .u8 (b.toNat : Int)
theorem cells8_length (l : List UInt8) : (cells8 l).length = l.length := by simp [cells8]
theorem cells8_append (a b : List UInt8) : cells8 (a ++ b) = cells8 a ++ cells8 b := by simp [cells8]
theorem cells8_one (l : List UInt8) : ∀ u ∈ cells8 l, u.oneCell' = true := by
  intro u hu
  simp only [cells8, List.mem_map] at hu
  obtain ⟨b, _, rfl⟩ := hu
  rfl
/-- The k-th byte as a number. -/
def bat (l : List UInt8) (k : Nat) : Nat := (l.getD k 0).toNat
theorem bat_lt (l : List UInt8) (k : Nat) : bat l k < 256 := UInt8.toNat_lt _
theorem S_get (l : List UInt8) (k : Nat) (h : k < (S l).size) : (S l)[k].toNat = bat l k := by rw [D_at, D_S]; rfl
theorem cells8_get (l : List UInt8) (j : Nat) (h : j < l.length) : (cells8 l)[j]? = some (.int .u8 (bat l j : Int)) := by
  simp [cells8, bat, List.getD, h]

theorem cells8_take (l : List UInt8) (m : Nat) : cells8 (l.take m) = (cells8 l).take m := by simp [cells8]
theorem cells8_drop (l : List UInt8) (m : Nat) : cells8 (l.drop m) = (cells8 l).drop m := by simp [cells8]
/-- the new row of '[]byte(s)' -/
theorem bytes_sl (w : World) (l : List UInt8) (c : Nat) (e : TypeId) (fr : Nat × Nat) : Sl (w.alloc (.cells (bytesRow (S l) c) e fr)).drew (some ⟨w.heap.size, 0, none⟩) (cells8 l) := by
  refine Sl.of_cells fun k v hk => ?_
  have hkl : k < l.length := by have := (List.getElem?_eq_some_iff.1 hk).1; simpa [cells8] using this
  rw [Nat.zero_add, bytes_new w (S l) c e fr k (by rw [S_size]; exact hkl), D_S, show (l.getD k 0).toNat = bat l k from rfl, ← cells8_get l k hkl]
  exact hk

/-- '[]byte(s)' at its operation: behind it the world is a letter. -/
theorem wpList_bytes {P : Program} {w : World} {ops : Array Oper} {rest : List Oper} {o : Oper} {a : Act} {Q : Exit → Act → World → Prop} {src dst e : TypeId} (hgd : o.guard = none) (x : Operand) (ho : o.op = .convert src dst x)
    (hs : P.underlying src = some .string) (hd : P.underlying dst = some (.slice e)) (he : P.underlying e = some (.int .u8))
    {l : List UInt8} (hx : a.eval x = .string (S l)) (g : Nat) (hg : w.heap.size = g)
    (h : ∀ cap w', l.length ≤ cap → Sl w' (some ⟨g, 0, none⟩) (cells8 l) → Below g w w' → g < w'.heap.size → (∃ cs fr, w'.heap[g]? = some (.cells cs e fr)) → wpList P ops Q rest (a.put o.dst (.slice (some ⟨g, 0, none⟩) l.length cap)) w') : wpList P ops Q (o :: rest) a w := by
  subst hg
  refine wpList_plain hgd fun K hK => ?_
  have hr := run_bytes_of_string (P := P) w src dst e (S l) hs hd he
  unfold Oper.wp execOp
  simp only [ho, hx, Sem.run_bind, hr, Result.andThen_ok, Sem.run_pure]
  rw [S_size]
  refine hK _ _ (h _ _ ?_ (bytes_sl w l _ e _) ((Below.refl _ _).alloc (Nat.le_refl _) _).drew (by simp) ⟨_, _, heap_alloc_new w _⟩)
  simp [grownCap, Question.cut]

/-- 'string(b)' of a slice that reads as bytes. -/
theorem run_string_of {P : Program} (W : World) {src dst e : TypeId} (hs : P.underlying src = some (.slice e)) (he : P.underlying e = some (.int .u8)) (hd : P.underlying dst = some .string)
    {A : Option Addr} {c : Nat} {l : List UInt8} {n : Nat} (hn : n = l.length) (h : Sl W A (cells8 l)) : (convert src dst (.slice A n c)).run P W = .ok (.string (S l)) W := by
  subst hn
  cases A with
  | none =>
    have hl : cells8 l = [] := sl_len_zero h rfl
    have : l = [] := by simpa [cells8] using hl
    subst this
    rw [run_convert_bytes_string W src dst e none _ _ hs he hd]
    simp [Conv.bytesToString]
    rfl
  | some a =>
    refine run_convert_bytes_back W src dst e a c l hs he hd fun j hj => ?_
    obtain ⟨b, off, e1, hc⟩ := h j _ (cells8_get l j hj)
    injection e1 with e1
    subst e1
    have hadd : (⟨b, off, none⟩ : Addr).add j = ⟨b, off + j, none⟩ := by unfold Addr.add; split <;> simp_all
    rw [hadd, hc, bat, List.getD_eq_getElem?_getD, List.getElem?_eq_getElem hj]
    rfl

/-- 'string(b)' at its operation. -/
theorem wpList_string {P : Program} {w : World} {ops : Array Oper} {rest : List Oper} {o : Oper} {a : Act} {Q : Exit → Act → World → Prop} {src dst e : TypeId} (hgd : o.guard = none) (x : Operand) (ho : o.op = .convert src dst x)
    (hs : P.underlying src = some (.slice e)) (he : P.underlying e = some (.int .u8)) (hd : P.underlying dst = some .string)
    {A : Option Addr} {n c : Nat} (l : List UInt8) (hx : a.eval x = .slice A n c) (hn : n = l.length) (hl : Sl w A (cells8 l))
    (h : wpList P ops Q rest (a.put o.dst (.string (S l))) w) : wpList P ops Q (o :: rest) a w := by
  refine wpList_plain hgd fun K hK => ?_
  have hr := run_string_of (P := P) w hs he hd (c := c) hn hl
  unfold Oper.wp execOp
  simp only [ho, hx, Sem.run_bind, hr, Result.andThen_ok, Sem.run_pure]
  exact hK _ _ h

/-! ### A number in so many bytes, the greatest first. -/
def bigL : Nat → Nat → List UInt8
  | 0, _ => []
  | k + 1, n => UInt8.ofNat (n / 256 ^ k) :: bigL k n
theorem bigL_length (k n : Nat) : (bigL k n).length = k := by
  induction k with
  | zero => rfl
  | succ k ih => simp [bigL, ih]

/-- big's row after i rounds. -/
def bigRow (k n i : Nat) : Array Value := (List.replicate (k - i) (Value.int .u8 0) ++ cells8 (bigL i n)).toArray
theorem bigRow_size {k n i : Nat} (hi : i ≤ k) : (bigRow k n i).size = k := by simp [bigRow, cells8, bigL_length]; omega
theorem made_zero (n : Nat) : madeCells #[Value.int .u8 0] n = (List.replicate n (Value.int .u8 0)).toArray := by
  apply Array.ext
  · simp [size_madeCells]
  · intro i h1 h2
    simp only [madeCells, Array.getElem_map, List.getElem_toArray, List.getElem_replicate]
    have : (Array.range n)[i]'(by simpa [madeCells] using h1) % (#[Value.int .u8 0] : Array Value).size = 0 := by simp [Nat.mod_one]
    rw [this]
    rfl
theorem bigRow_set {k n i : Nat} (hi : i < k) : (bigRow k n i).setIfInBounds (k - 1 - i) (.int .u8 ((n / 256 ^ i % 256 : Nat) : Int)) = bigRow k n (i + 1) := by
  unfold bigRow
  rw [List.setIfInBounds_toArray]
  congr 1
  have h1 : k - i = (k - 1 - i) + 1 := by omega
  rw [List.set_append_left _ _ (by simp; omega), h1, List.replicate_succ', List.set_append_right _ _ (by simp)]
  simp only [List.length_replicate, Nat.sub_self, List.set_cons_zero, List.append_assoc, List.cons_append, List.nil_append]
  have h2 : k - (i + 1) = k - 1 - i := by omega
  rw [h2]
  simp [cells8, bigL, UInt8.toNat_ofNat']

/-- So many zero bytes, as cells. -/
def zeros (n : Nat) : List Value := List.replicate n (Value.int .u8 0)
theorem zeros_length (n : Nat) : (zeros n).length = n := by simp [zeros]
theorem make_bytes (n : Nat) (hn : n ≤ 140737488355328) (W : World) (kl kc : IntKind) : (Instr.makeSlice 48 (.int kl (n : Int)) (.int kc (n : Int))).run Tryd.prog W = .ok (.slice (some ⟨W.heap.size, 0, none⟩) n n) (W.alloc (.cells (zeros n).toArray 5)) := by
  have h := run_make_row' (P := Tryd.prog) 48 5 (.int .u8 0) 1 Tryd.underlying48 (by kernel_rfl) rfl kl kc n (by omega) (by omega) W
  rwa [made_zero] at h
theorem make_bytes_at (n : Nat) (k : Int) (hk : k = n) (hn : n ≤ 140737488355328) (W : World) (kl kc : IntKind) : (Instr.makeSlice 48 (.int kl k) (.int kc k)).run Tryd.prog W = .ok (.slice (some ⟨W.heap.size, 0, none⟩) n n) (W.alloc (.cells (zeros n).toArray 5)) := by
  subst hk
  exact make_bytes n hn W kl kc

theorem el8 : Elem Tryd.prog 48 5 1 1 := Elem.of Tryd.underlying48 (z := .int .u8 0) (by kernel_rfl) rfl (by decide)
set_option maxRecDepth 100000 in
theorem big_any (n b : Int) (w : World) (hn0 : 0 ≤ n) (hn : n < 18446744073709551616) (hb0 : 0 ≤ b) (hb : b ≤ 8) :
    Calls Tryd.prog 32 #[.int .u64 n, .int .i64 b] w fun e w' => e = .returned (.string (S (bigL b.toNat n.toNat))) ∧ Below w.heap.size w w' := by
  obtain ⟨k, rfl⟩ := Int.eq_ofNat_of_zero_le hb0
  obtain ⟨m, rfl⟩ := Int.eq_ofNat_of_zero_le hn0
  rw [Int.toNat_natCast, Int.toNat_natCast]
  have hmk := fun W => run_make_row' (P := Tryd.prog) 48 5 (.int .u8 0) 1 Tryd.underlying48 (by kernel_rfl) rfl .i64 .i64 k (by omega) (by omega) W
  simp only [made_zero] at hmk
  have hz : (List.replicate k (Value.int .u8 0)).toArray = bigRow k m 0 := by simp [bigRow, bigL, cells8]
  simp only [hz] at hmk
  clear hz
  go_enter Tryd.func32, Tryd.ntmps32
  go_wp2
  go_loopw [0, 6, 11] (fun x _ c wr => ∃ i : Nat, i ≤ k ∧ c = .int .i64 i ∧ x = .int .u64 ((m / 256 ^ i : Nat) : Int) ∧ wr = w.alloc (.cells (bigRow k m i) 5)) (fun _ _ c _ => k - (intOf c).toNat)
  case atStart => exact ⟨0, by omega, rfl, by simp, rfl⟩
  case round =>
    obtain ⟨i, hi, rfl, rfl, rfl⟩ := hrel
    have hq : m / 256 ^ i ≤ m := Nat.div_le_self _ _
    by_cases hlt : i < k
    · have hcell : (w.alloc (.cells (bigRow k m i) 5)).cell? ⟨w.heap.size, k - 1 - i, none⟩ = some (.int .u8 0) := by
        rw [World.cell?_alloc_mark]
        unfold bigRow
        rw [List.getElem?_toArray, List.getElem?_append_left (by simp; omega), List.getElem?_replicate, if_pos (by omega)]
      have hset := Lib.hid (bigRow_set (n := m) hlt)
      generalize hX : m / 256 ^ i = X at *
      have HX := Lib.hid hX
      clear hX
      go_wp2
      go_roundw
      case rel =>
        refine ⟨i + 1, by omega, by go_num, ?_, ?_⟩
        · rw [Nat.pow_succ, ← Nat.div_div_eq_div_mul, HX.out]; rfl
        · rw [← hset.out]; rfl
      case measure => simp [intOf]; omega
    · obtain rfl : i = k := by omega
      have hsl : Sl (w.alloc (.cells (bigRow i m i) 5)) (some ⟨w.heap.size, 0, none⟩) (cells8 (bigL i m)) := by
        have := sl_new w (bigRow i m i) 5 (0, 0)
        simpa [bigRow] using this
      have hstr := run_string_of (P := Tryd.prog) _ Tryd.underlying48 Tryd.underlying5 Tryd.underlying9 (c := i) (n := i) (bigL_length i m).symm hsl
      clear hsl
      go_wp2
      go_ret
      exact ⟨rfl, (Below.refl _ _).alloc (Nat.le_refl _) _⟩

def vecL (l : List UInt8) (b : Nat) : List UInt8 := bigL b l.length ++ l
theorem vecL_length (l : List UInt8) (b : Nat) : (vecL l b).length = b + l.length := by simp [vecL, bigL_length]
def extL (kind : Nat) (body : List UInt8) : List UInt8 := bigL 2 kind ++ vecL body 2
theorem extL_length (k : Nat) (l : List UInt8) : (extL k l).length = 4 + l.length := by simp [extL, bigL_length, vecL_length]; omega

theorem vec_any (l : List UInt8) (b : Int) (w : World) (hl : l.length ≤ 2147483647) (hb0 : 0 ≤ b) (hb : b ≤ 8) :
    Calls Tryd.prog 19 #[.string (S l), .int .i64 b] w fun e w' => e = .returned (.string (S (vecL l b.toNat))) ∧ Below w.heap.size w w' := by
  have hS := S_size
  have hA := S_append
  have hL := bigL_length
  have hV := vecL_length
  have H := hide (big_any l.length b w (by omega) (by omega) hb0 hb)
  go_enter Tryd.func19, Tryd.ntmps19
  go_wp2_with fail
  refine H.out.mono ?_
  rintro e w' ⟨rfl, hb'⟩
  go_wp2
  go_ret
  exact ⟨rfl, hb'⟩

theorem framedExt_any (kind : Int) (l : List UInt8) (w : World) (hk0 : 0 ≤ kind) (hk : kind < 65536) (hl : l.length ≤ 2147483647) :
    Calls Tryd.prog 18 #[.int .u16 kind, .string (S l)] w fun e w' => e = .returned (.string (S (extL kind.toNat l))) ∧ Below w.heap.size w w' := by
  have hS := S_size
  have hA := S_append
  have hL := bigL_length
  have hV := vecL_length
  have H := hide (big_any kind 2 w hk0 (by omega) (by omega) (by omega))
  have H2 := hide (fun w => vec_any l 2 w hl (by omega) (by omega))
  go_enter Tryd.func18, Tryd.ntmps18
  go_wp2_with fail
  refine H.out.mono ?_
  rintro e w1 ⟨rfl, hb1⟩
  go_wp2_with fail
  refine (H2.out w1).mono ?_
  rintro e w2 ⟨rfl, hb2⟩
  go_wp2
  go_ret
  exact ⟨rfl, hb1.trans (hb2.mono hb1.size)⟩

theorem take_map_succ {α : Type} (f : α → Value) (l : List α) (k : Nat) (x : α) (hx : l[k]? = some x) : (l.take k).map f ++ [f x] = (l.take (k + 1)).map f := by
  have hk := (List.getElem?_eq_some_iff.1 hx).1
  rw [List.take_succ_eq_append_getElem hk, List.map_append]
  have : l[k] = x := by rw [List.getElem?_eq_getElem hk] at hx; simpa using hx
  rw [this]; rfl
theorem take_flat_succ {α β : Type} (f : α → List β) (l : List α) (k : Nat) (x : α) (hx : l[k]? = some x) : (l.take k).flatMap f ++ f x = (l.take (k + 1)).flatMap f := by
  have hk := (List.getElem?_eq_some_iff.1 hx).1
  rw [List.take_succ_eq_append_getElem hk, List.flatMap_append]
  have : l[k] = x := by rw [List.getElem?_eq_getElem hk] at hx; simpa using hx
  rw [this]; simp
theorem wf_u16 {n : Int} (h : (Lit.int .u16 n).wf = true) : 0 ≤ n ∧ n < 65536 := by
  have := bounds_u16 h
  omega

/-- Numbers in b bytes each. -/
def numsL (l : List Int) (b : Nat) : List UInt8 := l.flatMap fun n => bigL b n.toNat
theorem numsL_length (l : List Int) (b : Nat) : (numsL l b).length = l.length * b := by
  induction l with
  | nil => simp [numsL]
  | cons x l ih => simp only [numsL, List.flatMap_cons, List.length_append, bigL_length, List.length_cons] at ih ⊢; rw [ih, Nat.add_mul]; omega
set_option maxRecDepth 100000 in
theorem nums_any (A : Option Addr) (c : Nat) (l : List Int) (b : Int) (w : World) (hn : l.length ≤ 100000) (hs : Sl w A (l.map (Value.int .u16))) (hw : ∀ n ∈ l, (Lit.int .u16 n).wf = true) (hb0 : 0 ≤ b) (hb : b ≤ 8) :
    Calls Tryd.prog 20 #[.slice A l.length c, .int .i64 b] w fun e w' => e = .returned (.string (S (numsL l b.toNat))) ∧ Below w.heap.size w w' := by
  have hS := S_size
  have hA := S_append
  have hL := bigL_length
  have hV := numsL_length
  have HS := hide hs
  have HW := hide hw
  clear hs hw
  go_enter Tryd.func20, Tryd.ntmps20
  go_wp2
  go_loopw [5, 7, 10] (fun v _ i wr => ∃ k : Nat, k ≤ l.length ∧ i = .int .i64 k ∧ v = .string (S (numsL (l.take k) b.toNat)) ∧ Below w.heap.size w wr) (fun _ _ i _ => l.length - (intOf i).toNat)
  case atStart => exact ⟨0, by omega, rfl, rfl, Below.refl _ _⟩
  case round =>
    obtain ⟨k, hk, rfl, rfl, hb'⟩ := hrel
    have HB := Lib.hid hb'
    clear hb'
    by_cases hlt : k < l.length
    · obtain ⟨x, hx⟩ : ∃ x, l[k]? = some x := ⟨_, List.getElem?_eq_getElem hlt⟩
      obtain ⟨bb, off, rfl, hc⟩ := (HS.out.below HB.out) k (.int .u16 x) (by rw [List.getElem?_map, hx]; rfl)
      have hx0 := wf_u16 (HW.out x (List.mem_of_getElem? hx))
      obtain ⟨hx1, hx2⟩ := hx0
      have HX := Lib.hid hx
      have hkl : k * b.toNat ≤ 800000 := Nat.le_trans (Nat.mul_le_mul (show k ≤ 100000 by omega) (show b.toNat ≤ 8 by omega)) (by decide)
      clear hx
      go_wp2_with (go_at_call 32; refine (big_any x b wr hx1 (by omega) hb0 hb).mono ?_; rintro e w' ⟨rfl, hbw⟩)
      go_roundw
      case rel => exact ⟨k + 1, by omega, by go_num, by rw [show numsL (l.take (k + 1)) b.toNat = numsL (l.take k) b.toNat ++ bigL b.toNat x.toNat from (take_flat_succ _ l k x HX.out).symm], HB.out.trans (hbw.mono HB.out.size)⟩
      case measure => simp [intOf]; omega
    · obtain rfl : k = l.length := by omega
      go_wp2
      go_ret
      exact ⟨by rw [List.take_length]; rfl, HB.out⟩

set_option maxRecDepth 100000 in
theorem among_any (A : Option Addr) (c : Nat) (l : List Int) (x : Int) (w : World) (hn : l.length ≤ 100000) (hs : Sl w A (l.map (Value.int .u16))) :
    Calls Tryd.prog 46 #[.int .u16 x, .slice A l.length c] w fun e w' => e = .returned (.bool (decide (x ∈ l))) ∧ Below w.heap.size w w' := by
  have HS := hide hs
  clear hs
  go_enter Tryd.func46, Tryd.ntmps46
  go_wp2
  go_loopw [6, 9] (fun _ i wr => ∃ k : Nat, k ≤ l.length ∧ i = .int .i64 k ∧ x ∉ l.take k ∧ Below w.heap.size w wr) (fun _ i _ => l.length - (intOf i).toNat)
  case atStart => exact ⟨0, by omega, rfl, by simp, Below.refl _ _⟩
  case round =>
    obtain ⟨k, hk, rfl, hnot, hb⟩ := hrel
    have HB := Lib.hid hb
    have HN := Lib.hid hnot
    clear hb hnot
    by_cases hlt : k < l.length
    · obtain ⟨y, hy⟩ : ∃ y, l[k]? = some y := ⟨_, List.getElem?_eq_getElem hlt⟩
      obtain ⟨b, off, rfl, hc⟩ := (HS.out.below HB.out) k (.int .u16 y) (by rw [List.getElem?_map, hy]; rfl)
      have HY := Lib.hid hy
      clear hy
      by_cases he : y = x
      · have ht : (y == x) = true := by simp [he]
        have hin : x ∈ l := by rw [← he]; exact List.mem_of_getElem? HY.out
        have hF := Lib.hid (show decide (x ∈ l) = true by simpa using hin)
        clear he hin
        go_wp2
        go_ret
        exact ⟨by rw [hF.out]; rfl, HB.out⟩
      · have ht : (y == x) = false := by simp [he]
        have hnot' : x ∉ l.take (k + 1) := by
          have hlk : l[k] = y := by have := HY.out; rw [List.getElem?_eq_getElem hlt] at this; simpa using this
          rw [List.take_succ_eq_append_getElem hlt, hlk]
          simp only [List.mem_append, List.mem_singleton, not_or]
          exact ⟨HN.out, fun e => he e.symm⟩
        have HN' := Lib.hid hnot'
        clear he hnot'
        go_wp2
        go_roundw
        case rel => exact ⟨k + 1, by omega, by go_num, HN'.out, HB.out⟩
        case measure => simp [intOf]; omega
    · obtain rfl : k = l.length := by omega
      rw [List.take_length] at HN
      have hF := Lib.hid (show decide (x ∈ l) = false by simpa using HN.out)
      go_wp2
      go_ret
      exact ⟨by rw [hF.out]; rfl, HB.out⟩

def allB (l some_ : List Int) : Bool := l.all (fun x => decide (x ∈ some_)) && !l.isEmpty
set_option maxRecDepth 100000 in
theorem all_any (A A' : Option Addr) (c c' : Nat) (l m : List Int) (w : World) (hn : l.length ≤ 2147483647) (hm : m.length ≤ 100000) (hs : Sl w A (l.map (Value.int .u16))) (ht : Sl w A' (m.map (Value.int .u16))) :
    Calls Tryd.prog 16 #[.slice A l.length c, .slice A' m.length c'] w fun e w' => e = .returned (.bool (allB l m)) ∧ Below w.heap.size w w' := by
  have HS := hide hs
  have HT := hide ht
  clear hs ht
  go_enter Tryd.func16, Tryd.ntmps16
  go_wp2
  go_loopw [6, 9] (fun _ i wr => ∃ k : Nat, k ≤ l.length ∧ i = .int .i64 k ∧ (∀ z ∈ l.take k, z ∈ m) ∧ Below w.heap.size w wr) (fun _ i _ => l.length - (intOf i).toNat)
  case atStart => exact ⟨0, by omega, rfl, by simp, Below.refl _ _⟩
  case round =>
    obtain ⟨k, hk, rfl, hall, hb⟩ := hrel
    have HB := Lib.hid hb
    have HN := Lib.hid hall
    clear hb hall
    by_cases hlt : k < l.length
    · obtain ⟨y, hy⟩ : ∃ y, l[k]? = some y := ⟨_, List.getElem?_eq_getElem hlt⟩
      obtain ⟨b, off, rfl, hc⟩ := (HS.out.below HB.out) k (.int .u16 y) (by rw [List.getElem?_map, hy]; rfl)
      have HY := Lib.hid hy
      have HC := hide (among_any A' c' m y wr hm (HT.out.below HB.out))
      clear hy
      by_cases he : y ∈ m
      · have hd : decide (y ∈ m) = true := by simp [he]
        have hnext : ∀ z ∈ l.take (k + 1), z ∈ m := by
          have hlk : l[k] = y := by have := HY.out; rw [List.getElem?_eq_getElem hlt] at this; simpa using this
          intro z hz
          rw [List.take_succ_eq_append_getElem hlt, hlk] at hz
          simp only [List.mem_append, List.mem_singleton] at hz
          rcases hz with hz | rfl
          · exact HN.out z hz
          · exact he
        have HN' := Lib.hid hnext
        clear he hnext
        go_wp2_with (go_at_call 46; refine HC.out.mono ?_; rintro e w' ⟨rfl, hb'⟩)
        go_roundw
        case rel => exact ⟨k + 1, by omega, by go_num, HN'.out, HB.out.trans (hb'.mono HB.out.size)⟩
        case measure => simp [intOf]; omega
      · have hd : decide (y ∈ m) = false := by simp [he]
        have hF : allB l m = false := by
          unfold allB
          rw [Bool.and_eq_false_iff]
          left
          rw [List.all_eq_false]
          exact ⟨y, List.mem_of_getElem? HY.out, by simpa using he⟩
        have HF := Lib.hid hF
        clear he hF
        go_wp2_with (go_at_call 46; refine HC.out.mono ?_; rintro e w' ⟨rfl, hb'⟩)
        go_ret
        exact ⟨by rw [HF.out]; rfl, HB.out.trans (hb'.mono HB.out.size)⟩
    · obtain rfl : k = l.length := by omega
      rw [List.take_length] at HN
      have hF : allB l m = decide (0 < l.length) := by
        unfold allB
        rw [List.all_eq_true.2 (fun z hz => by simpa using HN.out z hz), Bool.true_and]
        cases l <;> simp
      have HF := Lib.hid hF
      clear hF
      go_wp2
      go_ret
      exact ⟨by rw [HF.out]; rfl, HB.out⟩

set_option maxRecDepth 100000 in
theorem text_ok (A : Option Addr) (c n : Nat) (l : List UInt8) (w : World) (hn : n = l.length) (hs : Sl w A (cells8 l)) :
    Calls Tryd.prog 47 #[.slice A n c, .nilIface] w fun e w' => e = .returned (.tuple #[.string (S l), .bool true]) ∧ w = w' := by
  have hstr := run_string_of (P := Tryd.prog) w Tryd.underlying48 Tryd.underlying5 Tryd.underlying9 (c := c) hn hs
  clear hs hn
  go_enter Tryd.func47, Tryd.ntmps47
  go_wp2
  go_ret2
  exact ⟨rfl, rfl⟩
theorem text_err (v : Value) (t : TypeId) (x : Value) (w : World) :
    Calls Tryd.prog 47 #[v, .iface t x] w fun e w' => e = .returned (.tuple #[.string ByteArray.empty, .bool false]) ∧ w = w' := by
  go_enter Tryd.func47, Tryd.ntmps47
  go_wp2
  go_ret2
  exact ⟨rfl, rfl⟩
end Go.Proofs.YthfpfakdchhodaaDoor
