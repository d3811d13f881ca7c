/- cryptobyte.String's readers: what each hands back, and where the string stands behind it. -/
import Derived.Test.YthfpfakdchhodaaDoorAppendStr
import Derived.Test.YthfpfakdchhodaaDoorBin
import Derived.StillTailTactics
import Derived.Deep.RegionHeld3
import Derived.Deep.RegionWith
namespace Go.Proofs.YthfpfakdchhodaaDoor
open Go.ChangeShapes Go.WideShapes Go.ChangeAt Go.RowKit
set_option linter.unusedVariables false

/-! ### 'w' is w but for new blocks and the blocks of a list. -/
structure Chg (ps : List Nat) (w w' : World) : Prop where
  os : w'.os = w.os
  tape : w'.tape = w.tape
  output : w'.output = w.output
  size : w.heap.size ≤ w'.heap.size
  block : ∀ i, i < w.heap.size → i ∉ ps → w'.heap[i]? = w.heap[i]?
section
variable {ps qs : List Nat} {w w' w2 : World}
theorem Chg.refl (ps : List Nat) (w : World) : Chg ps w w := ⟨rfl, rfl, rfl, Nat.le_refl _, fun _ _ _ => rfl⟩
theorem Chg.trans (h : Chg ps w w') (k : Chg qs w' w2) (hq : ∀ q ∈ qs, q ∈ ps ∨ w.heap.size ≤ q) : Chg ps w w2 :=
  ⟨k.os.trans h.os, k.tape.trans h.tape, k.output.trans h.output, Nat.le_trans h.size k.size, fun i hi hn => (k.block i (Nat.lt_of_lt_of_le hi h.size) (fun hm => by rcases hq i hm with h1 | h1; exact hn h1; omega)).trans (h.block i hi hn)⟩
theorem Chg.weak (h : Chg ps w w') (hs : ∀ x ∈ ps, x ∈ qs) : Chg qs w w' := ⟨h.os, h.tape, h.output, h.size, fun i hi hn => h.block i hi (fun hm => hn (hs i hm))⟩
theorem Chg.of_below {B : Nat} (h : Below B w w') (hB : w.heap.size ≤ B) (ps : List Nat) : Chg ps w w' := ⟨h.os, h.tape, h.output, h.size, fun i hi _ => h.block i (Nat.lt_of_lt_of_le hi hB)⟩
theorem Chg.below {B : Nat} {w0 : World} (h0 : Below B w0 w) (h : Chg ps w w') (hB : B ≤ w.heap.size) (hp : ∀ p ∈ ps, B ≤ p) : Below B w0 w' :=
  h0.trans ⟨h.os, h.tape, h.output, h.size, fun i hi => h.block i (by omega) (fun hm => by have := hp i hm; omega)⟩
theorem Chg.cell (h : Chg ps w w') {p : Addr} {v : Value} (hn : p.block ∉ ps) (hc : w.cell? p = some v) : w'.cell? p = some v := by
  rw [World.cell?_of_block (w := w) (h.block p.block (World.block_lt_of_cell? w _ hc) hn)]; exact hc
theorem Chg.sl {b off : Nat} {xs : List Value} (h : Chg ps w w') (hn : b ∉ ps) (hs : Sl w (some ⟨b, off, none⟩) xs) : Sl w' (some ⟨b, off, none⟩) xs := fun k v hk => by
  obtain ⟨b', o', e, hc⟩ := hs k v hk
  injection e with e; injection e with e1 e2; subst e1 e2
  exact ⟨b, off, rfl, h.cell hn hc⟩
theorem Chg.blk {b : Nat} {t : TypeId} {cs : List Value} (h : Chg ps w w') (hn : b ∉ ps) (hb : Blk w b t cs) : Blk w' b t cs := (h.block b hb.lt hn).trans hb
theorem Chg.set_ (h : Chg ps w w') {p : Addr} (hp : p.block ∈ ps ∨ w.heap.size ≤ p.block) (u : Value) : Chg ps w (w'.setCell p u) :=
  ⟨h.os, h.tape, h.output, by simpa [World.setCell] using h.size, fun i hi hn => (Below.heap_setCell w' p u i (fun e => by subst e; rcases hp with h1 | h1; exact hn h1; omega)).trans (h.block i hi hn)⟩
theorem Chg.alloc (h : Chg ps w w') (o : Obj) : Chg ps w (w'.alloc o) :=
  ⟨h.os, h.tape, h.output, Nat.le_trans h.size (by simp), fun i hi hn => (Below.heap_alloc w' o i (Nat.lt_of_lt_of_le hi h.size)).trans (h.block i hi hn)⟩
theorem Chg.drew (h : Chg ps w w') : Chg ps w w'.drew := ⟨h.os, h.tape, h.output, h.size, h.block⟩
end

/-- Block p holds a slice of the bytes l, which lie in block b. -/
def Str (w : World) (p b : Nat) (l : List UInt8) : Prop :=
  ∃ t off cap, Blk w p t [.slice (some ⟨b, off, none⟩) l.length cap] ∧ l.length ≤ cap ∧ 0 ≤ cap ∧ Sl w (some ⟨b, off, none⟩) (cells8 l)
theorem Str.chg {ps : List Nat} {w w' : World} {p b : Nat} {l : List UInt8} (h : Str w p b l) (k : Chg ps w w') (hp : p ∉ ps) (hb : b ∉ ps) : Str w' p b l := by
  obtain ⟨t, off, cap, h1, h2, h3, h4⟩ := h
  exact ⟨t, off, cap, k.blk hp h1, h2, h3, k.sl hb h4⟩
theorem Str.drew {w : World} {p b : Nat} {l : List UInt8} (h : Str w p b l) : Str w.drew p b l := h
theorem Str.lt {w : World} {p b : Nat} {l : List UInt8} (h : Str w p b l) : p < w.heap.size := by
  obtain ⟨t, off, cap, h1, _⟩ := h
  exact h1.lt

/-- The number that bytes write, the greatest first. -/
def beN (l : List UInt8) : Nat := l.foldl (fun a x => a * 256 + x.toNat) 0
theorem beN_succ (l : List UInt8) (i : Nat) (h : i < l.length) : beN (l.take (i + 1)) = beN (l.take i) * 256 + bat l i := by
  rw [List.take_succ_eq_append_getElem h]
  unfold beN
  rw [List.foldl_append]
  simp [bat, List.getD, h]
theorem fold_big (k n a : Nat) : (bigL k n).foldl (fun a x => a * 256 + x.toNat) a = a * 256 ^ k + n % 256 ^ k := by
  induction k generalizing a with
  | zero => simp [bigL, Nat.mod_one]
  | succ k ih =>
    rw [bigL, List.foldl_cons, ih, Nat.mod_pow_succ, UInt8.toNat_ofNat']
    rw [show n / 256 ^ k % 2 ^ 8 = n / 256 ^ k % 256 from rfl, Nat.add_mul, Nat.pow_succ, Nat.mul_comm (256 ^ k) 256, ← Nat.mul_assoc, Nat.mul_comm (256 ^ k)]
    omega
theorem beN_big (k n : Nat) (h : n < 256 ^ k) : beN (bigL k n) = n := by
  unfold beN
  rw [fold_big, Nat.mod_eq_of_lt h]
  simp
theorem beN_lt (l : List UInt8) : beN l < 256 ^ l.length := by
  have : ∀ (l : List UInt8) (a : Nat), l.foldl (fun a x => a * 256 + x.toNat) a < (a + 1) * 256 ^ l.length := by
    intro l
    induction l with
    | nil => intro a; simp
    | cons x l ih =>
      intro a
      have hx := UInt8.toNat_lt x
      rw [List.foldl_cons, List.length_cons, Nat.pow_succ]
      refine Nat.lt_of_lt_of_le (ih _) ?_
      rw [Nat.mul_comm (256 ^ l.length) 256, ← Nat.mul_assoc]
      exact Nat.mul_le_mul_right _ (by omega)
  simpa [beN] using this l 0
theorem or_bytes2 (x y : Nat) (hx : x < 256) (hy : y < 256) : bits .or .u16 ((x : Int) * 256) (y : Int) = ((x * 256 + y : Nat) : Int) := by
  have h := u16_or_nat (x * 256) y (by omega) (by omega)
  rw [show ((x * 256 : Nat) : Int) = (x : Int) * 256 by omega] at h
  rw [h]
  have h2 : x * 256 ||| y = x * 256 + y := by
    rw [show x * 256 = 2 ^ 8 * x by omega]
    exact (Nat.two_pow_add_eq_or_of_lt (show y < 2 ^ 8 from hy) x).symm
  rw [h2]
theorem or_word (x y : Nat) (hx : x < 16777216) (hy : y < 256) : bits .or .u32 ((x : Int) * 256) (y : Int) = ((x * 256 + y : Nat) : Int) := by
  have h := u32_or_nat (x * 256) y (by omega) (by omega)
  rw [show ((x * 256 : Nat) : Int) = (x : Int) * 256 by omega] at h
  rw [h]
  have h2 : x * 256 ||| y = x * 256 + y := by
    rw [show x * 256 = 2 ^ 8 * x by omega]
    exact (Nat.two_pow_add_eq_or_of_lt (show y < 2 ^ 8 from hy) x).symm
  rw [h2]
set_option maxRecDepth 100000 in
/-- read(n) of a string that has so many. -/
theorem read_ok (p b off cap n : Nat) (t : TypeId) (l : List UInt8) (w : World) (hn : n ≤ l.length) (hcap : l.length ≤ cap) (hm : 0 ≤ cap) (hc : Blk w p t [.slice (some ⟨b, off, none⟩) l.length cap]) :
    Calls Tryd.prog 112 #[.pointer (some ⟨p, 0, none⟩), .int .i64 n] w fun e w' => ∃ off', e = .returned (.slice (some ⟨b, off, none⟩) n cap) ∧ w' = w.setCell ⟨p, 0, none⟩ (.slice (some ⟨b, off', none⟩) (l.length - n) (cap - n)) ∧ (n < l.length → off' = off + n) := by
  have c0 := hc.cell 0
  have z0 := hc.frozen 0
  have hlt := hc.lt
  simp only [List.getElem?_cons_zero] at c0
  clear hc
  have h1 : ¬ (l.length : Int) < (n : Int) := by omega
  have h2 : ¬ (n : Int) < 0 := by omega
  have h3 : (n : Int) ≤ (cap : Int) := by omega
  have h4 : (n : Int) ≤ (l.length : Int) := by omega
  by_cases hcn : cap = n
  · go_enter Tryd.func112, Tryd.ntmps112
    go_wp2
    go_ret
    exact ⟨rfl, off, rfl, by omega⟩
  · go_enter Tryd.func112, Tryd.ntmps112
    go_wp2
    go_ret
    exact ⟨rfl, off + n, rfl, fun _ => rfl⟩
set_option maxRecDepth 100000 in
/-- read(n) of a string that has fewer. -/
theorem read_short (p b off cap n : Nat) (t : TypeId) (l : List UInt8) (w : World) (hn : l.length < n) (hc : Blk w p t [.slice (some ⟨b, off, none⟩) l.length cap]) :
    Calls Tryd.prog 112 #[.pointer (some ⟨p, 0, none⟩), .int .i64 n] w fun e w' => e = .returned (.slice none 0 0) ∧ w = w' := by
  have c0 := hc.cell 0
  have hlt := hc.lt
  simp only [List.getElem?_cons_zero] at c0
  clear hc
  have h1 : (l.length : Int) < (n : Int) := by omega
  go_enter Tryd.func112, Tryd.ntmps112
  go_wp2
  go_ret
  exact ⟨rfl, rfl⟩
/-- Where a string stands behind a read: 'w' is w but for block p. -/
theorem Str.read {w : World} {p b off off' cap n : Nat} {t : TypeId} {l : List UInt8} (hn : n ≤ l.length) (hcap : l.length ≤ cap) (hm : 0 ≤ cap) (hc : Blk w p t [.slice (some ⟨b, off, none⟩) l.length cap]) (hs : Sl w (some ⟨b, off, none⟩) (cells8 l)) (hne : b ≠ p) (ho : n < l.length → off' = off + n) :
    Blk (w.setCell ⟨p, 0, none⟩ (.slice (some ⟨b, off', none⟩) (l.length - n) (cap - n))) p t [.slice (some ⟨b, off', none⟩) (l.drop n).length (cap - n)] ∧ Sl (w.setCell ⟨p, 0, none⟩ (.slice (some ⟨b, off', none⟩) (l.length - n) (cap - n))) (some ⟨b, off', none⟩) (cells8 (l.drop n)) ∧ Chg [p] w (w.setCell ⟨p, 0, none⟩ (.slice (some ⟨b, off', none⟩) (l.length - n) (cap - n))) := by
  refine ⟨by have := hc.set_ 0 (.slice (some ⟨b, off', none⟩) (l.length - n) (cap - n)); simpa using this, ?_, (Chg.refl _ _).set_ (.inl (by simp)) _⟩
  refine Sl.setCell_far ?_ (fun b' o e => by injection e with e; injection e with e1; subst e1; exact hne) _
  by_cases h : n < l.length
  · rw [ho h, cells8_drop]
    exact hs.drop n
  · rw [List.drop_eq_nil_of_le (by omega)]
    exact Sl.nil_ _ _
set_option maxRecDepth 100000 in
theorem readLP (k p q b : Nat) (tq : TypeId) (v0 : Value) (l : List UInt8) (w : World) (hk : k ≤ 3) (hl : k ≤ l.length) (hN : k + beN (l.take k) ≤ l.length) (hp : Str w p b l) (hq : Blk w q tq [v0]) (hpq : p ≠ q) (hbp : b ≠ p) (hbq : b ≠ q) :
    Calls Tryd.prog 113 #[.pointer (some ⟨p, 0, none⟩), .int .i64 k, .pointer (some ⟨q, 0, none⟩)] w fun e w' => e = .returned (.bool true) ∧ Str w' p b (l.drop (k + beN (l.take k))) ∧ Str w' q b ((l.drop k).take (beN (l.take k))) ∧ Chg [p, q] w w' := by
  obtain ⟨t, off, cap, h1, h2, h3, h4⟩ := hp
  have HP := Lib.hid h1
  have HS := Lib.hid h4
  have HQ := Lib.hid hq
  clear h1 h4 hq
  have hnn := fun (A : Option Addr) (n c : Nat) (W : World) => eql_nil A n c W
  go_enter Tryd.func113, Tryd.ntmps113
  go_wp2_with fail
  refine (read_ok p b off cap k t l w hl h2 h3 HP.out).mono ?_
  rintro e w1 ⟨off1, rfl, rfl, ho1⟩
  obtain ⟨k1, s1, g1⟩ := Str.read hl h2 h3 HP.out HS.out hbp ho1
  have HL := Lib.hid ((HS.out.take k).setCell_far (p := ⟨p, 0, none⟩) (fun b' o e => by injection e with e; injection e with e1; subst e1; exact hbp) (.slice (some ⟨b, off1, none⟩) (l.length - k) (cap - k)))
  have HK1 := Lib.hid k1
  have HS1 := Lib.hid s1
  have HG1 := Lib.hid g1
  clear k1 s1 g1 ho1
  generalize w.setCell ⟨p, 0, none⟩ (.slice (some ⟨b, off1, none⟩) (l.length - k) (cap - k)) = w1 at *
  go_wp2_with fail
  go_loopw [8, 10, 19] (fun n _ i wr => ∃ j : Nat, j ≤ k ∧ i = .int .i64 j ∧ n = .int .u32 (beN (l.take j) : Int) ∧ wr = w1) (fun _ _ i _ => k - (intOf i).toNat)
  case atStart => exact ⟨0, by omega, rfl, rfl, rfl⟩
  case round =>
    obtain ⟨j, hj, rfl, rfl, rfl⟩ := hrel
    by_cases hlt : j < k
    · have hc : wr.cell? ⟨b, off + j, none⟩ = some (.int .u8 (bat l j : Int)) := by
        obtain ⟨b0, o0, e0, h0⟩ := HL.out j (.int .u8 (bat l j : Int)) (by rw [List.getElem?_take, if_pos hlt]; exact cells8_get l j (by omega))
        injection e0 with e0; injection e0 with e0 e2; subst e0 e2
        exact h0
      have hb1 := beN_succ l j (by omega)
      have hb2 := beN_lt (l.take j)
      have hb3 : 256 ^ (l.take j).length ≤ 256 ^ 2 := Nat.pow_le_pow_right (by decide) (by rw [List.length_take]; omega)
      have hb4 : beN (l.take j) < 65536 := by omega
      have ho := or_word (beN (l.take j)) (bat l j) (by omega) (bat_lt _ _)
      have hb5 := bat_lt l j
      have HN' := Lib.hid hb1
      generalize beN (l.take j) = X at *
      have hw : IntKind.u32.wrap ((X : Int) * 256) = (X : Int) * 256 := by rw [IntKind.wrap_u32]; omega
      clear hb1 hb2 hb3
      go_wp2
      go_roundw
      case rel => exact ⟨j + 1, by omega, by go_num, by rw [HN'.out]; go_num, trivial⟩
      case measure => simp [intOf]; omega
    · obtain rfl : j = k := by omega
      have hbl := beN_lt (l.take j)
      have hb3 : 256 ^ (l.take j).length ≤ 256 ^ 3 := Nat.pow_le_pow_right (by decide) (by rw [List.length_take]; omega)
      have hb4 : beN (l.take j) < 16777216 := by omega
      clear hbl hb3
      generalize hB : beN (l.take j) = X at *
      go_wp2_with fail
      refine (read_ok p b off1 (cap - j) X t (l.drop j) wr (by rw [List.length_drop]; omega) (by rw [List.length_drop]; omega) (by omega) HK1.out).mono ?_
      rintro e w2 ⟨off2, rfl, rfl, ho2⟩
      obtain ⟨k2, s2, g2⟩ := Str.read (by rw [List.length_drop]; omega) (by rw [List.length_drop]; omega) (by omega) HK1.out HS1.out hbp ho2
      have HK2 := Lib.hid k2
      have HS2 := Lib.hid s2
      have HG2 := Lib.hid (HG1.out.trans g2 (fun z hz => .inl hz))
      have HV := Lib.hid ((HS1.out.take X).setCell_far (p := ⟨p, 0, none⟩) (fun b' o e => by injection e with e; injection e with e1; subst e1; exact hbp) (.slice (some ⟨b, off2, none⟩) ((l.drop j).length - X) (cap - j - X)))
      clear k2 s2 g2 ho2
      generalize wr.setCell ⟨p, 0, none⟩ (.slice (some ⟨b, off2, none⟩) ((l.drop j).length - X) (cap - j - X)) = w2 at *
      have HQ2 := Lib.hid (HG2.out.blk (by simp; omega) HQ.out)
      have q0 := HQ2.out.cell 0
      have f0 := HQ2.out.frozen 0
      have hqlt := HQ2.out.lt
      simp only [List.getElem?_cons_zero] at q0
      go_wp2
      go_ret
      rw [hB]
      refine ⟨rfl, ⟨t, off2, cap - j - X, ?_, ?_, by omega, ?_⟩, ⟨tq, off1, cap - j, ?_, ?_, by omega, ?_⟩, ?_⟩
      · rw [← List.drop_drop]
        exact HK2.out.far (p := ⟨q, 0, none⟩) hpq _
      · rw [← List.drop_drop, List.length_drop, List.length_drop]; omega
      · rw [← List.drop_drop]
        exact HS2.out.setCell_far (p := ⟨q, 0, none⟩) (fun b' o e => by injection e with e; injection e with e1; subst e1; exact hbq) _
      · have hX : ((l.drop j).take X).length = X := by rw [List.length_take, List.length_drop]; omega
        rw [hX]
        exact HQ2.out.set_ 0 _
      · rw [List.length_take, List.length_drop]; omega
      · rw [cells8_take]
        exact HV.out.setCell_far (p := ⟨q, 0, none⟩) (fun b' o e => by injection e with e; injection e with e1; subst e1; exact hbq) _
      · exact (HG2.out.weak (by simp)).set_ (p := ⟨q, 0, none⟩) (.inl (by simp)) _
set_option maxRecDepth 100000 in
/-- A length-prefixed part that is not there whole. -/
theorem readLP_bad (k p q b : Nat) (l : List UInt8) (w : World) (hk : k ≤ 3) (hN : l.length < k ∨ (k ≤ l.length ∧ l.length < k + beN (l.take k))) (hp : Str w p b l) (hbp : b ≠ p) :
    Calls Tryd.prog 113 #[.pointer (some ⟨p, 0, none⟩), .int .i64 k, .pointer (some ⟨q, 0, none⟩)] w fun e w' => e = .returned (.bool false) ∧ Chg [p] w w' := by
  obtain ⟨t, off, cap, h1, h2, h3, h4⟩ := hp
  have HP := Lib.hid h1
  have HS := Lib.hid h4
  clear h1 h4
  have hnn := fun (A : Option Addr) (n c : Nat) (W : World) => eql_nil A n c W
  go_enter Tryd.func113, Tryd.ntmps113
  go_wp2_with fail
  rcases hN with hN | ⟨hl, hN⟩
  · refine (read_short p b off cap k t l w hN HP.out).mono ?_
    rintro e w1 ⟨rfl, rfl⟩
    go_wp2
    go_ret
    exact ⟨rfl, Chg.refl _ _⟩
  refine (read_ok p b off cap k t l w hl h2 h3 HP.out).mono ?_
  rintro e w1 ⟨off1, rfl, rfl, ho1⟩
  obtain ⟨k1, s1, g1⟩ := Str.read hl h2 h3 HP.out HS.out hbp ho1
  have HL := Lib.hid ((HS.out.take k).setCell_far (p := ⟨p, 0, none⟩) (fun b' o e => by injection e with e; injection e with e1; subst e1; exact hbp) (.slice (some ⟨b, off1, none⟩) (l.length - k) (cap - k)))
  have HK1 := Lib.hid k1
  have HS1 := Lib.hid s1
  have HG1 := Lib.hid g1
  clear k1 s1 g1 ho1
  generalize w.setCell ⟨p, 0, none⟩ (.slice (some ⟨b, off1, none⟩) (l.length - k) (cap - k)) = w1 at *
  go_wp2_with fail
  go_loopw [8, 10, 19] (fun n _ i wr => ∃ j : Nat, j ≤ k ∧ i = .int .i64 j ∧ n = .int .u32 (beN (l.take j) : Int) ∧ wr = w1) (fun _ _ i _ => k - (intOf i).toNat)
  case atStart => exact ⟨0, by omega, rfl, rfl, rfl⟩
  case round =>
    obtain ⟨j, hj, rfl, rfl, rfl⟩ := hrel
    by_cases hlt : j < k
    · have hc : wr.cell? ⟨b, off + j, none⟩ = some (.int .u8 (bat l j : Int)) := by
        obtain ⟨b0, o0, e0, h0⟩ := HL.out j (.int .u8 (bat l j : Int)) (by rw [List.getElem?_take, if_pos hlt]; exact cells8_get l j (by omega))
        injection e0 with e0; injection e0 with e0 e2; subst e0 e2
        exact h0
      have hb1 := beN_succ l j (by omega)
      have hb2 := beN_lt (l.take j)
      have hb3 : 256 ^ (l.take j).length ≤ 256 ^ 2 := Nat.pow_le_pow_right (by decide) (by rw [List.length_take]; omega)
      have hb4 : beN (l.take j) < 65536 := by omega
      have ho := or_word (beN (l.take j)) (bat l j) (by omega) (bat_lt _ _)
      have hb5 := bat_lt l j
      have HN' := Lib.hid hb1
      generalize beN (l.take j) = X at *
      have hw : IntKind.u32.wrap ((X : Int) * 256) = (X : Int) * 256 := by rw [IntKind.wrap_u32]; omega
      clear hb1 hb2 hb3
      go_wp2
      go_roundw
      case rel => exact ⟨j + 1, by omega, by go_num, by rw [HN'.out]; go_num, trivial⟩
      case measure => simp [intOf]; omega
    · obtain rfl : j = k := by omega
      have hbl := beN_lt (l.take j)
      have hb3 : 256 ^ (l.take j).length ≤ 256 ^ 3 := Nat.pow_le_pow_right (by decide) (by rw [List.length_take]; omega)
      have hb4 : beN (l.take j) < 16777216 := by omega
      clear hbl hb3
      generalize hB : beN (l.take j) = X at *
      go_wp2_with fail
      refine (read_short p b off1 (cap - j) X t (l.drop j) wr (by rw [List.length_drop]; omega) HK1.out).mono ?_
      rintro e w2 ⟨rfl, rfl⟩
      go_wp2
      go_ret
      exact ⟨rfl, HG1.out⟩
theorem lp16 (p q b : Nat) (tq : TypeId) (v0 : Value) (l : List UInt8) (w : World) (hl : 2 ≤ l.length) (hN : 2 + beN (l.take 2) ≤ l.length) (hp : Str w p b l) (hq : Blk w q tq [v0]) (hpq : p ≠ q) (hbp : b ≠ p) (hbq : b ≠ q) :
    Calls Tryd.prog 96 #[.pointer (some ⟨p, 0, none⟩), .pointer (some ⟨q, 0, none⟩)] w fun e w' => e = .returned (.bool true) ∧ Str w' p b (l.drop (2 + beN (l.take 2))) ∧ Str w' q b ((l.drop 2).take (beN (l.take 2))) ∧ Chg [p, q] w w' := by
  go_enter Tryd.func96, Tryd.ntmps96
  go_wp2_with fail
  refine (readLP 2 p q b tq v0 l w (by omega) hl hN hp hq hpq hbp hbq).mono ?_
  rintro e w1 ⟨rfl, h1, h2, h3⟩
  have H1 := Lib.hid h1
  have H2 := Lib.hid h2
  have H3 := Lib.hid h3
  clear h1 h2 h3 hp hq
  go_wp2
  go_ret
  exact ⟨rfl, H1.out, H2.out, H3.out⟩
theorem lp16_bad (p q b : Nat) (l : List UInt8) (w : World) (hN : l.length < 2 ∨ (2 ≤ l.length ∧ l.length < 2 + beN (l.take 2))) (hp : Str w p b l) (hbp : b ≠ p) :
    Calls Tryd.prog 96 #[.pointer (some ⟨p, 0, none⟩), .pointer (some ⟨q, 0, none⟩)] w fun e w' => e = .returned (.bool false) ∧ Chg [p] w w' := by
  go_enter Tryd.func96, Tryd.ntmps96
  go_wp2_with fail
  refine (readLP_bad 2 p q b l w (by omega) hN hp hbp).mono ?_
  rintro e w1 ⟨rfl, h3⟩
  have H3 := Lib.hid h3
  clear h3 hp
  go_wp2
  go_ret
  exact ⟨rfl, H3.out⟩
theorem lp8 (p q b : Nat) (tq : TypeId) (v0 : Value) (l : List UInt8) (w : World) (hl : 1 ≤ l.length) (hN : 1 + beN (l.take 1) ≤ l.length) (hp : Str w p b l) (hq : Blk w q tq [v0]) (hpq : p ≠ q) (hbp : b ≠ p) (hbq : b ≠ q) :
    Calls Tryd.prog 98 #[.pointer (some ⟨p, 0, none⟩), .pointer (some ⟨q, 0, none⟩)] w fun e w' => e = .returned (.bool true) ∧ Str w' p b (l.drop (1 + beN (l.take 1))) ∧ Str w' q b ((l.drop 1).take (beN (l.take 1))) ∧ Chg [p, q] w w' := by
  go_enter Tryd.func98, Tryd.ntmps98
  go_wp2_with fail
  refine (readLP 1 p q b tq v0 l w (by omega) hl hN hp hq hpq hbp hbq).mono ?_
  rintro e w1 ⟨rfl, h1, h2, h3⟩
  have H1 := Lib.hid h1
  have H2 := Lib.hid h2
  have H3 := Lib.hid h3
  clear h1 h2 h3 hp hq
  go_wp2
  go_ret
  exact ⟨rfl, H1.out, H2.out, H3.out⟩
theorem two_far {w : World} {b o1 o2 q k : Nat} {x y v : Value} (hbq : b ≠ q) (h : w.cell? ⟨b, o1, none⟩ = some x ∧ w.cell? ⟨b, o2, none⟩ = some y) : (w.drew.setCell ⟨q, k, none⟩ v).cell? ⟨b, o1, none⟩ = some x ∧ (w.drew.setCell ⟨q, k, none⟩ v).cell? ⟨b, o2, none⟩ = some y :=
  ⟨(World.cell?_setCell_far w.drew _ _ v (Ne.symm hbq)).trans h.1, (World.cell?_setCell_far w.drew _ _ v (Ne.symm hbq)).trans h.2⟩
set_option maxRecDepth 100000 in
theorem ru16 (p q b : Nat) (tq : TypeId) (v0 : Value) (l : List UInt8) (w : World) (hl : 2 ≤ l.length) (hp : Str w p b l) (hq : Blk w q tq [v0]) (hpq : p ≠ q) (hbp : b ≠ p) (hbq : b ≠ q) :
    Calls Tryd.prog 94 #[.pointer (some ⟨p, 0, none⟩), .pointer (some ⟨q, 0, none⟩)] w fun e w' => e = .returned (.bool true) ∧ Str w' p b (l.drop 2) ∧ Blk w' q tq [.int .u16 (be16 l : Int)] ∧ Chg [p, q] w w' := by
  obtain ⟨t, off, cap, h1, h2, h3, h4⟩ := hp
  have HP := Lib.hid h1
  have HS := Lib.hid h4
  have HQ := Lib.hid hq
  clear h1 h4 hq
  have hnn := fun (A : Option Addr) (n c : Nat) (W : World) => eql_nil A n c W
  have hor := or_bytes2 (bat l 0) (bat l 1) (bat_lt _ _) (bat_lt _ _)
  have hx0 := bat_lt l 0
  have hx1 := bat_lt l 1
  have hw0 : IntKind.u16.wrap (bat l 0 : Int) = bat l 0 := by rw [IntKind.wrap_u16]; omega
  have hw1 : IntKind.u16.wrap ((bat l 0 : Int) * 256) = (bat l 0 : Int) * 256 := by rw [IntKind.wrap_u16]; omega
  have hw2 : IntKind.u16.wrap (bat l 1 : Int) = bat l 1 := by rw [IntKind.wrap_u16]; omega
  have hbe : be16 l = bat l 0 * 256 + bat l 1 := rfl
  rw [← hbe] at hor
  clear hbe
  go_enter Tryd.func94, Tryd.ntmps94
  go_wp2_with fail
  refine (read_ok p b off cap 2 t l w hl h2 h3 HP.out).mono ?_
  rintro e w1 ⟨off1, rfl, rfl, ho1⟩
  obtain ⟨k1, s1, g1⟩ := Str.read hl h2 h3 HP.out HS.out hbp ho1
  have HL := Lib.hid ((HS.out.take 2).setCell_far (p := ⟨p, 0, none⟩) (fun b' o e => by injection e with e; injection e with e1; subst e1; exact hbp) (.slice (some ⟨b, off1, none⟩) (l.length - 2) (cap - 2)))
  have HK1 := Lib.hid k1
  have HS1 := Lib.hid s1
  have HG1 := Lib.hid g1
  clear k1 s1 g1 ho1
  generalize w.setCell ⟨p, 0, none⟩ (.slice (some ⟨b, off1, none⟩) (l.length - 2) (cap - 2)) = w1 at *
  have c0 : w1.cell? ⟨b, off, none⟩ = some (.int .u8 (bat l 0 : Int)) := by
    obtain ⟨b0, o0, e0, h0⟩ := HL.out 0 (.int .u8 (bat l 0 : Int)) (by rw [List.getElem?_take, if_pos (by omega)]; exact cells8_get l 0 (by omega))
    injection e0 with e0; injection e0 with e0 e2; subst e0 e2
    exact h0
  have c1 : w1.cell? ⟨b, off + 1, none⟩ = some (.int .u8 (bat l 1 : Int)) := by
    obtain ⟨b0, o0, e0, h0⟩ := HL.out 1 (.int .u8 (bat l 1 : Int)) (by rw [List.getElem?_take, if_pos (by omega)]; exact cells8_get l 1 (by omega))
    injection e0 with e0; injection e0 with e0 e2; subst e0 e2
    exact h0
  have HQ1 := Lib.hid (HG1.out.blk (by simp; omega) HQ.out)
  have q0 := HQ1.out.cell 0
  have f0 := HQ1.out.frozen 0
  have hqlt := HQ1.out.lt
  simp only [List.getElem?_cons_zero] at q0
  go_wp2
  go_region_held3 (fun w' => (w'.cell? ⟨b, off, none⟩ = some (.int .u8 (bat l 0 : Int)) ∧ w'.cell? ⟨b, off + 1, none⟩ = some (.int .u8 (bat l 1 : Int)))) (first | exact ⟨c0, c1⟩ | exact two_far hbq ⟨c0, c1⟩ | go_keep) (fail)
  go_wp2
  go_ret
  refine ⟨rfl, ⟨t, off1, cap - 2, ?_, ?_, by omega, ?_⟩, ?_, ?_⟩
  · exact (HK1.out.far (p := ⟨q, 0, none⟩) hpq _).drew
  · rw [List.length_drop]; omega
  · exact (HS1.out.setCell_far (p := ⟨q, 0, none⟩) (fun b' o e => by injection e with e; injection e with e1; subst e1; exact hbq) _).drew
  · exact (HQ1.out.set_ 0 _).drew
  · exact ((HG1.out.weak (by simp)).set_ (p := ⟨q, 0, none⟩) (.inl (by simp)) _).drew
theorem ru16_short (p q b : Nat) (l : List UInt8) (w : World) (hl : l.length < 2) (hp : Str w p b l) :
    Calls Tryd.prog 94 #[.pointer (some ⟨p, 0, none⟩), .pointer (some ⟨q, 0, none⟩)] w fun e w' => e = .returned (.bool false) ∧ w = w' := by
  obtain ⟨t, off, cap, h1, h2, h3, h4⟩ := hp
  have HP := Lib.hid h1
  clear h1 h4
  have hnn := fun (A : Option Addr) (n c : Nat) (W : World) => eql_nil A n c W
  go_enter Tryd.func94, Tryd.ntmps94
  go_wp2_with fail
  refine (read_short p b off cap 2 t l w hl HP.out).mono ?_
  rintro e w1 ⟨rfl, rfl⟩
  go_wp2
  go_ret
  exact ⟨rfl, rfl⟩
theorem vec_cut (y r : List UInt8) (k : Nat) (h : y.length < 256 ^ k) : k ≤ (vecL y k ++ r).length ∧ k + beN ((vecL y k ++ r).take k) ≤ (vecL y k ++ r).length ∧ (vecL y k ++ r).drop (k + beN ((vecL y k ++ r).take k)) = r ∧ ((vecL y k ++ r).drop k).take (beN ((vecL y k ++ r).take k)) = y := by
  have h1 : (vecL y k ++ r).take k = bigL k y.length := by rw [vecL, List.append_assoc]; exact List.take_left' (bigL_length k _)
  have h2 : (vecL y k ++ r).drop k = y ++ r := by rw [vecL, List.append_assoc]; exact List.drop_left' (bigL_length k _)
  rw [h1, beN_big k _ h, ← List.drop_drop, h2]
  refine ⟨by simp [vecL_length]; omega, by simp [vecL_length], ?_, ?_⟩
  · exact List.drop_left
  · exact List.take_left
theorem lp16v (p q b : Nat) (tq : TypeId) (v0 : Value) (y r : List UInt8) (w : World) (hy : y.length < 65536) (hp : Str w p b (vecL y 2 ++ r)) (hq : Blk w q tq [v0]) (hpq : p ≠ q) (hbp : b ≠ p) (hbq : b ≠ q) :
    Calls Tryd.prog 96 #[.pointer (some ⟨p, 0, none⟩), .pointer (some ⟨q, 0, none⟩)] w fun e w' => e = .returned (.bool true) ∧ Str w' p b r ∧ Str w' q b y ∧ Chg [p, q] w w' := by
  obtain ⟨c1, c2, c3, c4⟩ := vec_cut y r 2 (by omega)
  refine (lp16 p q b tq v0 _ w c1 c2 hp hq hpq hbp hbq).mono ?_
  rintro e w' ⟨rfl, h1, h2, h3⟩
  rw [c3] at h1
  rw [c4] at h2
  exact ⟨rfl, h1, h2, h3⟩
theorem lp8v (p q b : Nat) (tq : TypeId) (v0 : Value) (y r : List UInt8) (w : World) (hy : y.length < 256) (hp : Str w p b (vecL y 1 ++ r)) (hq : Blk w q tq [v0]) (hpq : p ≠ q) (hbp : b ≠ p) (hbq : b ≠ q) :
    Calls Tryd.prog 98 #[.pointer (some ⟨p, 0, none⟩), .pointer (some ⟨q, 0, none⟩)] w fun e w' => e = .returned (.bool true) ∧ Str w' p b r ∧ Str w' q b y ∧ Chg [p, q] w w' := by
  obtain ⟨c1, c2, c3, c4⟩ := vec_cut y r 1 (by omega)
  refine (lp8 p q b tq v0 _ w c1 c2 hp hq hpq hbp hbq).mono ?_
  rintro e w' ⟨rfl, h1, h2, h3⟩
  rw [c3] at h1
  rw [c4] at h2
  exact ⟨rfl, h1, h2, h3⟩
theorem Str.lt_b {w : World} {p b : Nat} {l : List UInt8} (h : Str w p b l) (hl : 0 < l.length) : b < w.heap.size := by
  obtain ⟨t, off, cap, h1, h2, h3, h4⟩ := h
  obtain ⟨b', o', e, hc⟩ := h4 0 _ (cells8_get l 0 hl)
  injection e with e; injection e with e1 e2; subst e1
  exact World.block_lt_of_cell? w _ hc
/-- What the string's cell holds. -/
theorem Str.cell {w : World} {p b : Nat} {l : List UInt8} (h : Str w p b l) : ∃ off cap, w.cell? ⟨p, 0, none⟩ = some (.slice (some ⟨b, off, none⟩) l.length cap) ∧ Sl w (some ⟨b, off, none⟩) (cells8 l) := by
  obtain ⟨t, off, cap, h1, h2, h3, h4⟩ := h
  exact ⟨off, cap, h1.cell 0, h4⟩
theorem empty_any (A : Option Addr) (n c : Nat) (w : World) : Calls Tryd.prog 97 #[.slice A n c] w fun e w' => e = .returned (.bool ((n : Int) == 0)) ∧ w = w' := by
  go_enter Tryd.func97, Tryd.ntmps97
  go_wp2
  go_ret
  exact ⟨rfl, rfl⟩
/-- A new string of bytes. -/
theorem Str.of {w : World} {p b off cap : Nat} {t : TypeId} {l : List UInt8} {n : Nat} (hn : n = l.length) (hp : Blk w p t [.slice (some ⟨b, off, none⟩) n cap]) (hs : Sl w (some ⟨b, off, none⟩) (cells8 l)) (hc : l.length ≤ cap) (hm : 0 ≤ cap) : Str w p b l := by
  subst hn
  exact ⟨t, off, cap, hp, hc, hm, hs⟩
end Go.Proofs.YthfpfakdchhodaaDoor
