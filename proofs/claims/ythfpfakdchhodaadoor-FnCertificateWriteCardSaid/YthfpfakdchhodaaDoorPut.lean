/- A row of bytes that is written from its head on: what stands already, and zeros behind it; big-endian numbers and copies laid into it. -/
import Derived.Test.YthfpfakdchhodaaDoorBin
import Derived.Laws.CopyOwn
import Derived.StillTailTactics
import Derived.Deep.RegionHeld3
import Derived.Deep.RegionWith
namespace Go.Proofs.YthfpfakdchhodaaDoor
open Go.ChangeShapes Go.WideShapes Go.ChangeAt Go.RowKit
set_option linter.unusedVariables false

/-- L is written, k zeros stand behind it. -/
def part (L : List UInt8) (k : Nat) : List Value := cells8 L ++ zeros k
theorem part_length (L : List UInt8) (k : Nat) : (part L k).length = L.length + k := by simp [part, cells8_length, zeros_length]
theorem part_zero (n : Nat) : zeros n = part [] n := by simp [part, cells8]
theorem part_full (L : List UInt8) : part L 0 = cells8 L := by simp [part, zeros]
theorem part_put16 (L : List UInt8) (k m : Nat) (hm : m = L.length) (x : Int) (h0 : 0 ≤ x) (h : x < 65536) : ((part L (k + 2)).set m (hi8 x)).set (m + 1) (lo8 x) = part (L ++ bigL 2 x.toNat) k := by
  subst hm
  unfold part
  rw [cells8_append, bigL2 x h0 h, List.set_append_right _ _ (by simp [cells8]), List.set_append_right _ _ (by simp [cells8])]
  simp [cells8, zeros, List.replicate_succ]
theorem part_put8 (L : List UInt8) (k m : Nat) (hm : m = L.length) (x : Nat) (h : x < 256) : (part L (k + 1)).set m (.int .u8 (x : Int)) = part (L ++ bigL 1 x) k := by
  subst hm
  have hx : (UInt8.ofNat x).toNat = x := by simp [UInt8.toNat_ofNat']; omega
  unfold part
  rw [cells8_append, List.set_append_right _ _ (by simp [cells8])]
  simp [cells8, zeros, List.replicate_succ, bigL]
  omega
theorem part_copy (L s : List UInt8) (k N m : Nat) (hm : m = L.length) (hN : N = s.length + k) : splice (part L N) m (cells8 s) = part (L ++ s) k := by
  subst hm hN
  unfold splice part
  rw [cells8_append, List.take_append_of_le_length (by simp [cells8]), List.take_of_length_le (by simp [cells8]), cells8_length]
  rw [show L.length + s.length = (cells8 L).length + s.length by rw [cells8_length], List.drop_append, List.append_assoc]
  simp [zeros]

theorem own_far {w : World} {base n size : Nat} {e : TypeId} {v : Value} {xs : List Value} (h : w.ownsRow base e size v n xs) {p : Addr} (hp : p.block < base) (u : Value) : (w.setCell p u).ownsRow base e size v n xs := by
  obtain ⟨h1, h2⟩ := h
  refine ⟨h1, ?_⟩
  rcases h2 with ⟨a, b⟩ | ⟨g, cap, cur, a, b, c, d⟩
  · exact .inl ⟨a, b⟩
  · exact .inr ⟨g, cap, cur, a, b, (Below.heap_setCell w p u g (by omega)).trans c, d⟩
theorem below_set {B : Nat} {w w' : World} (h : Below B w w') {p : Addr} (hp : B ≤ p.block) (u : Value) : Below B w (w'.setCell p u) :=
  ⟨h.os, h.tape, h.output, by simpa [World.setCell] using h.size, fun k hk => (Below.heap_setCell w' p u k (by omega)).trans (h.block k hk)⟩
/-- PutUint16 into a row of bytes that is known whole. -/
theorem put16_blk (B g off n c : Nat) (xs : List Value) (v u : Int) (w : World) (hve : v = u) (hv0 : 0 ≤ u) (hv : u < 65536) (hn : 2 ≤ n) (hb : Blk w g 5 xs) (hB : B ≤ g) (hoff : off + 2 ≤ xs.length) :
    Calls Tryd.prog 90 #[.agg #[], .slice (some ⟨g, off, none⟩) n c, .int .u16 v] w fun e w' => e = .returned (.tuple #[]) ∧ Blk w' g 5 ((xs.set off (hi8 u)).set (off + 1) (lo8 u)) ∧ w.grownBy w' (some g) ∧ Below B w w' := by
  subst hve
  have hx : w.cell? ⟨g, off, none⟩ = some xs[off] := by rw [hb.cell]; exact List.getElem?_eq_getElem (by omega)
  have hy : w.cell? ⟨g, off + 1, none⟩ = some xs[off + 1] := by rw [hb.cell]; exact List.getElem?_eq_getElem (by omega)
  have hbl : B ≤ w.heap.size := by have := hb.lt; omega
  refine (put16_cells g off n c _ _ v w hv0 hv hn hb.lt hx hy (hb.frozen _) (hb.frozen _)).mono ?_
  rintro e w' ⟨rfl, rfl⟩
  have hgrown : w.grownBy (((w.setCell ⟨g, off, none⟩ (hi8 v)).setCell ⟨g, off + 1, none⟩ (lo8 v)).alloc (.cells #[] 166)) (some g) :=
    ⟨rfl, rfl, rfl, by simp [World.setCell], fun k hk hne => by
      rw [Below.heap_alloc _ _ _ (by simpa [World.setCell] using hk), Below.heap_setCell _ _ _ _ (fun e => hne (by rw [e])), Below.heap_setCell _ _ _ _ (fun e => hne (by rw [e]))]⟩
  exact ⟨rfl, ((hb.set_ off (hi8 v)).set_ (off + 1) (lo8 v)).alloc _, hgrown, below_only (Below.refl B w) hgrown hbl hB⟩
end Go.Proofs.YthfpfakdchhodaaDoor
