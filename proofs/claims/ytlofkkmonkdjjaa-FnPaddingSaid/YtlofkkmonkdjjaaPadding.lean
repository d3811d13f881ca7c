/- FnPadding: for every text the law returns true: the program's verdict on the padding (255 or 0) and the bytes to go are the reference's. No condition. -/
import Derived.Test.YtlofkkmonkdjjaaBase
namespace Go.Proofs.Ytlofkkmonkdjjaa.fnPadding
open Go.ChangeShapes Go.WideShapes Go.ChangeAt Go.RowKit
open Go.ChangeMaps (open_string shut_string)
set_option linter.unusedVariables false

theorem xor_ones (T : Nat) (h : T < 18446744073709551616) : (18446744073709551615 : Nat) ^^^ T = 18446744073709551615 - T := by
  have h3 : (BitVec.allOnes 64 ^^^ BitVec.ofNat 64 T).toNat = (~~~ (BitVec.ofNat 64 T)).toNat := by rw [BitVec.allOnes_xor]
  simp only [BitVec.toNat_xor, BitVec.toNat_allOnes, BitVec.toNat_ofNat, BitVec.toNat_not] at h3
  rw [Nat.mod_eq_of_lt (show T < 2 ^ 64 from h)] at h3
  exact h3
theorem xor_max (T : Nat) (h : T < 18446744073709551616) : bits .xor .u64 IntKind.u64.max (T : Int) = 18446744073709551615 - (T : Int) := by
  have hm : IntKind.u64.max = ((18446744073709551615 : Nat) : Int) := rfl
  rw [hm, bits_xor_u64_nat _ _ (by omega) h, xor_ones T h]
  omega
theorem mask_lo (T : Nat) (h : T < 2147483648) : wrap32 (bits .xor .u64 IntKind.u64.max (T : Int)) / 2147483648 % 256 = 255 := by
  rw [xor_max T (by omega)]
  unfold wrap32
  omega
theorem mask_hi (d : Nat) (h1 : 1 ≤ d) (h : d < 2147483648) : wrap32 (bits .xor .u64 IntKind.u64.max (18446744073709551616 - (d : Int))) / 2147483648 % 256 = 0 := by
  have e : (18446744073709551616 - (d : Int)) = ((18446744073709551616 - d : Nat) : Int) := by omega
  rw [e, xor_max _ (by omega)]
  unfold wrap32
  omega

theorem andNot255 (G : Nat) (hG : G < 256) (e : Nat) (he : e < 256) : (G &&& (255 - e) = 255 ↔ G = 255 ∧ e = 0) := by
  constructor
  · intro h
    have h1 : G &&& (255 - e) ≤ G := Nat.and_le_left
    have h2 : G &&& (255 - e) ≤ 255 - e := Nat.and_le_right
    omega
  · rintro ⟨rfl, rfl⟩; rfl
theorem xor0 (p : Nat) (b : Nat) : (p ^^^ b = 0 ↔ p = b) := by
  constructor
  · intro h
    have : p ^^^ b ^^^ b = 0 ^^^ b := by rw [h]
    rwa [Nat.xor_assoc, Nat.xor_self, Nat.xor_zero, Nat.zero_xor] at this
  · rintro rfl; exact Nat.xor_self _
theorem xorlt (p : Nat) (hp : p < 256) (b : Nat) (hb : b < 256) : p ^^^ b < 256 := Nat.xor_lt_two_pow (n := 8) hp hb
theorem and255 : ∀ p : Nat, p < 256 → 255 &&& p = p := by decide +kernel
theorem fin_ : ∀ G : Nat, G < 256 → IntKind.i8.wrap
                  (bits BinOp.and IntKind.u8
                    (bits BinOp.and IntKind.u8 (bits BinOp.and IntKind.u8 (↑G) (↑G * 16 % 256))
                      (bits BinOp.and IntKind.u8 (↑G) (↑G * 16 % 256) * 4 % 256))
                    (bits BinOp.and IntKind.u8 (bits BinOp.and IntKind.u8 (↑G) (↑G * 16 % 256))
                          (bits BinOp.and IntKind.u8 (↑G) (↑G * 16 % 256) * 4 % 256) *
                        2 %
                      256)) /
                128 %
              256 = if G = 255 then 255 else 0 := by decide +kernel
theorem step_in (G p b : Nat) (hG : G < 256) (hp : p < 256) (hb : b < 256) : ∃ G' : Nat, bits BinOp.andNot IntKind.u8 (↑G) (bits BinOp.xor IntKind.u8 (bits BinOp.and IntKind.u8 255 ↑p) (bits BinOp.and IntKind.u8 255 ↑b)) = (G' : Int) ∧ G' < 256 ∧ (G' = 255 ↔ G = 255 ∧ p = b) := by
  have e1 : bits BinOp.and IntKind.u8 255 (p : Int) = (p : Int) := by
    have := u8_and_nat 255 p (by omega) hp
    rw [and255 p hp] at this; exact this
  have e2 : bits BinOp.and IntKind.u8 255 (b : Int) = (b : Int) := by
    have := u8_and_nat 255 b (by omega) hb
    rw [and255 b hb] at this; exact this
  rw [e1, e2, u8_xor_nat p b hp hb, u8_andNot_nat G _ hG (xorlt p hp b hb)]
  refine ⟨_, rfl, Nat.lt_of_le_of_lt Nat.and_le_left hG, ?_⟩
  rw [andNot255 G hG _ (xorlt p hp b hb), xor0 p b]
theorem step_out (G p b : Nat) (hG : G < 256) (hp : p < 256) (hb : b < 256) : bits BinOp.andNot IntKind.u8 (↑G) (bits BinOp.xor IntKind.u8 (bits BinOp.and IntKind.u8 0 ↑p) (bits BinOp.and IntKind.u8 0 ↑b)) = (G : Int) := by
  have e1 : bits BinOp.and IntKind.u8 0 (p : Int) = ((0 : Nat) : Int) := by
    have := u8_and_nat 0 p (by omega) hp
    simpa using this
  have e2 : bits BinOp.and IntKind.u8 0 (b : Int) = ((0 : Nat) : Int) := by
    have := u8_and_nat 0 b (by omega) hb
    simpa using this
  rw [e1, e2, u8_xor_nat 0 0 (by omega) (by omega), u8_andNot_nat G _ hG (by decide)]
  have : G &&& 255 = G := by rw [Nat.and_comm]; exact and255 G hG
  exact congrArg Nat.cast this

def Good (n p : Nat) (B : Nat → Nat) (k G : Nat) : Prop := G < 256 ∧ (G = 255 ↔ (p + 1 ≤ n ∧ ∀ j, j < k → j ≤ p → B j = p))
theorem good_in {n p : Nat} {B : Nat → Nat} {k G G' : Nat} (h : Good n p B k G) (hk : k ≤ p) (h1 : G' < 256) (h2 : G' = 255 ↔ G = 255 ∧ p = B k) : Good n p B (k + 1) G' := by
  refine ⟨h1, h2.trans ?_⟩
  rw [h.2]
  constructor
  · rintro ⟨⟨a, b⟩, c⟩
    refine ⟨a, fun j hj hp => ?_⟩
    by_cases e : j = k
    · subst e; exact c.symm
    · exact b j (by omega) hp
  · rintro ⟨a, b⟩
    exact ⟨⟨a, fun j hj hp => b j (by omega) hp⟩, (b k (by omega) hk).symm⟩
theorem good_out {n p : Nat} {B : Nat → Nat} {k G : Nat} (h : Good n p B k G) (hk : p < k) : Good n p B (k + 1) G := by
  refine ⟨h.1, h.2.trans ⟨fun ⟨a, b⟩ => ⟨a, fun j hj hp => b j (by omega) hp⟩, fun ⟨a, b⟩ => ⟨a, fun j hj hp => b j (by omega) hp⟩⟩⟩
/-- the padding's verdict on the bytes from the end: B j is the j-th byte from the end -/
def IsPad (n p : Nat) (B : Nat → Nat) : Prop := p + 1 ≤ n ∧ ∀ j, j ≤ p → B j = p
theorem good_end {n p : Nat} {B : Nat → Nat} {m G : Nat} (h : Good n p B m G) (hp : p < 256) (hm : (m = n) ∨ m = 256) : G = 255 ↔ IsPad n p B := by
  rw [h.2]
  exact ⟨fun ⟨a, b⟩ => ⟨a, fun j hj => b j (by omega) hj⟩, fun ⟨a, b⟩ => ⟨a, fun j _ hp => b j hp⟩⟩

theorem start_good (n p : Nat) (B : Nat → Nat) (h0 : 0 < n) (hn : n ≤ 70000) (hp : p < 256) : ∃ G : Nat, (wrap32 (bits BinOp.xor IntKind.u64 IntKind.u64.max (IntKind.u64.wrap (↑n - 1 - ↑p))) / 2147483648 % 256) = (G : Int) ∧ Good n p B 0 G := by
  by_cases h : p + 1 ≤ n
  · refine ⟨255, ?_, by decide, ?_⟩
    · have e : IntKind.u64.wrap ((n : Int) - 1 - p) = ((n - 1 - p : Nat) : Int) := by rw [IntKind.wrap_u64]; omega
      rw [e, mask_lo _ (by omega)]; rfl
    · exact ⟨fun _ => ⟨h, fun j hj => by omega⟩, fun _ => rfl⟩
  · refine ⟨0, ?_, by decide, ?_⟩
    · have e : IntKind.u64.wrap ((n : Int) - 1 - p) = (18446744073709551616 - ((p + 1 - n : Nat) : Int)) := by rw [IntKind.wrap_u64]; omega
      rw [e, mask_hi _ (by omega) (by omega)]; rfl
    · exact ⟨fun h => by omega, fun ⟨a, _⟩ => by omega⟩
theorem mask_of_lt (p k : Nat) (hp : p < 256) (hk : k ≤ p) : wrap32 (bits BinOp.xor IntKind.u64 IntKind.u64.max (↑p - ↑k)) / 2147483648 % 256 = 255 := by
  have e : ((p : Int) - k) = ((p - k : Nat) : Int) := by omega
  rw [e, mask_lo _ (by omega)]
theorem mask_of_gt (p k : Nat) (hk : p < k) (hk2 : k < 256) : wrap32 (bits BinOp.xor IntKind.u64 IntKind.u64.max (IntKind.u64.wrap (↑p - ↑k))) / 2147483648 % 256 = 0 := by
  have e : IntKind.u64.wrap ((p : Int) - k) = (18446744073709551616 - ((k - p : Nat) : Int)) := by rw [IntKind.wrap_u64]; omega
  rw [e, mask_hi _ (by omega) (by omega)]

def Verdict (n p : Nat) (B : Nat → Nat) (w : World) (e : Ending) (w' : World) : Prop := ∃ g : Nat, e = .returned (.tuple #[.int .i64 ((p : Int) + 1), .int .u8 (g : Int)]) ∧ (IsPad n p B → g = 255) ∧ (¬ IsPad n p B → g = 0) ∧ w = w'
theorem verdict_of {n p : Nat} {B : Nat → Nat} {m G : Nat} (w : World) (h : Good n p B m G) (hp : p < 256) (hm : (m = n) ∨ m = 256) {x : Int} (hx : x = if G = 255 then 255 else 0) :
    Verdict n p B w (.returned (.tuple #[.int .i64 ((p : Int) + 1), .int .u8 x])) w := by
  have hg := good_end h hp hm
  by_cases hG : G = 255
  · refine ⟨255, by rw [hx, if_pos hG]; rfl, fun _ => rfl, fun hn => absurd (hg.1 hG) hn, rfl⟩
  · refine ⟨0, by rw [hx, if_neg hG]; rfl, fun hn => absurd (hg.2 hn) hG, fun _ => rfl, rfl⟩

set_option maxRecDepth 100000 in
theorem exam_any (n : Nat) (b cap p : Nat) (w : World) (h0 : 0 < n) (hn : n ≤ 70000) (hp : p < 256)
   (B : Nat → Nat) (hB : ∀ j, B j < 256) (hBp : B 0 = p) (hc : ∀ j, j < n → w.cell? ⟨b, n - 1 - j, none⟩ = some (.int .u8 (B j : Int))) :
   Calls Try.prog 36 #[.slice (some ⟨b, 0, none⟩) n cap] w (Verdict n p B w) := by
  have hlast : w.cell? ⟨b, n - 1, none⟩ = some (.int .u8 (p : Int)) := by have := hc 0 h0; rw [hBp] at this; simpa using this
  have HB := Lib.hid hB
  have HC := Lib.hid hc
  have HS := Lib.hid (start_good n p B h0 hn hp)
  clear hB hc hBp
  by_cases hm : (n : Int) < 256
  · go_enter Try.func36, Try.ntmps36
    go_wp2
    go_loop [3, 7, 8, 9, 10, 36] (fun g _ _ _ _ i => ∃ k G : Nat, k ≤ n ∧ i = .int .i64 k ∧ g = .int .u8 G ∧ Good n p B k G) (fun _ _ _ _ _ i => n - (intOf i).toNat)
    case atStart =>
      obtain ⟨G, e, h⟩ := HS.out
      exact ⟨0, G, by omega, rfl, by rw [e], h⟩
    case round =>
      obtain ⟨k, G, hk, rfl, rfl, hG⟩ := hrel
      by_cases hlt : k < n
      · have hcell := HC.out k hlt
        by_cases hkp : k ≤ p
        · go_wp2
          go_round
          case rel =>
            obtain ⟨G', e, h1, h2⟩ := step_in G p (B k) hG.1 hp (HB.out k)
            exact ⟨k + 1, G', by omega, by go_num, by rw [mask_of_lt p k hp hkp, e], good_in hG hkp h1 h2⟩
          case measure => simp [intOf]; omega
        · go_wp2
          go_round
          case rel =>
            exact ⟨k + 1, G, by omega, by go_num, by rw [mask_of_gt p k (by omega) (by omega), step_out G p (B k) hG.1 hp (HB.out k)], good_out hG (by omega)⟩
          case measure => simp [intOf]; omega
      · have hF := Lib.hid (verdict_of w hG hp (.inl (by omega)) (fin_ G hG.1))
        go_wp2
        go_ret2
        exact hF.out
  · have hP : p + 1 ≤ n := by omega
    go_enter Try.func36, Try.ntmps36
    go_wp2
    go_loop [3, 7, 8, 9, 10, 36] (fun g _ _ _ _ i => ∃ k G : Nat, k ≤ 256 ∧ i = .int .i64 k ∧ g = .int .u8 G ∧ Good n p B k G) (fun _ _ _ _ _ i => 256 - (intOf i).toNat)
    case atStart =>
      obtain ⟨G, e, h⟩ := HS.out
      have ew : IntKind.u64.wrap ((n : Int) - 1 - p) = (n : Int) - 1 - p := by rw [IntKind.wrap_u64]; omega
      rw [ew] at e
      exact ⟨0, G, by omega, rfl, by rw [e], h⟩
    case round =>
      obtain ⟨k, G, hk, rfl, rfl, hG⟩ := hrel
      by_cases hlt : k < 256
      · have hcell := HC.out k (by omega)
        by_cases hkp : k ≤ p
        · go_wp2
          go_round
          case rel =>
            obtain ⟨G', e, h1, h2⟩ := step_in G p (B k) hG.1 hp (HB.out k)
            exact ⟨k + 1, G', by omega, by go_num, by rw [mask_of_lt p k hp hkp, e], good_in hG hkp h1 h2⟩
          case measure => simp [intOf]; omega
        · go_wp2
          go_round
          case rel =>
            exact ⟨k + 1, G, by omega, by go_num, by rw [mask_of_gt p k (by omega) (by omega), step_out G p (B k) hG.1 hp (HB.out k)], good_out hG (by omega)⟩
          case measure => simp [intOf]; omega
      · have hF := Lib.hid (verdict_of w hG hp (.inr (by omega)) (fin_ G hG.1))
        go_wp2
        go_ret2
        exact hF.out

abbrev rev (s : ByteArray) (j : Nat) : Nat := D s (s.size - 1 - j)
def SpecPad (s : ByteArray) (p : Nat) (w : World) (e : Ending) (w' : World) : Prop :=
  ∃ ok : Bool, (ok = true ↔ IsPad s.size p (rev s)) ∧ (e = .returned (.tuple #[.int .i64 (if ok then (p : Int) + 1 else 0), .bool ok])) ∧ Below w.heap.size w w'
theorem spec_yes {s : ByteArray} {p k : Nat} {w wr : World} (hle : p + 1 ≤ s.size) (hall : ∀ j, s.size - (p + 1) ≤ j → j < k → D s j = p) (hk : s.size ≤ k) (hb : Below w.heap.size w wr) :
    SpecPad s p w (.returned (.tuple #[.int .i64 ((p : Int) + 1), .bool true])) wr :=
  ⟨true, ⟨fun _ => ⟨hle, fun j hj => hall _ (by omega) (by omega)⟩, fun _ => rfl⟩, rfl, hb⟩
theorem spec_no {s : ByteArray} {p k : Nat} {w wr : World} (h0 : 0 < s.size) (h : s.size - (p + 1) ≤ k) (hk : k < s.size) (hne : D s k ≠ p) (hb : Below w.heap.size w wr) :
    SpecPad s p w (.returned (.tuple #[.int .i64 0, .bool false])) wr :=
by
  refine ⟨false, ⟨(fun h => by cases h), fun ⟨a, b⟩ => ?_⟩, rfl, hb⟩
  have := b (s.size - 1 - k) (by omega)
  simp only [rev] at this
  rw [show s.size - 1 - (s.size - 1 - k) = k by omega] at this
  exact absurd this hne
theorem upto_succ {s : ByteArray} {p a k : Nat} (h : ∀ j, a ≤ j → j < k → D s j = p) (he : D s k = p) : ∀ j, a ≤ j → j < k + 1 → D s j = p := by
  intro j ha hb
  by_cases e : j = k
  · subst e; exact he
  · exact h j ha (by omega)
set_option maxRecDepth 100000 in
theorem spec_any (s : ByteArray) (p : Nat) (w : World) (h0 : 0 < s.size) (hn : s.size ≤ 70000) (hp : p < 256) (hlast : s[s.size - 1].toNat = p) (hle : p + 1 ≤ s.size) :
   Calls Try.prog 13 #[.string s] w (SpecPad s p w) := by
  go_enter Try.func13, Try.ntmps13
  go_wp2
  go_loopw [5] (fun i wr => ∃ k : Nat, s.size - (p + 1) ≤ k ∧ k ≤ s.size ∧ i = .int .i64 k ∧ (∀ j, s.size - (p + 1) ≤ j → j < k → D s j = p) ∧ Below w.heap.size w wr) (fun i _ => s.size - (intOf i).toNat)
  case atStart => exact ⟨s.size - (p + 1), by omega, by omega, by go_num, fun j a b => by omega, Below.refl _ _⟩
  case round =>
    obtain ⟨k, hk1, hk2, rfl, hall, hb⟩ := hrel
    have HALL := Lib.hid hall
    have HB := Lib.hid hb
    clear hall hb
    by_cases hlt : k < s.size
    · have hDk := Lib.hid (D_at s k hlt)
      have hi1 : (k : Int) < (s.size : Int) := by omega
      have hi2 : ((s.size : Int) - 1) < (s.size : Int) := by omega
      go_wp2
      go_quiet (fail)
      by_cases he : D s k = p
      · have ht : ((s[k].toNat : Int) != (p : Int)) = false := by rw [hDk.out, he]; simp
        go_wp2
        go_roundw
        case rel => exact ⟨k + 1, by omega, by omega, by go_num, upto_succ HALL.out he, below_drewN HB.out _⟩
        case measure => simp [intOf]; omega
      · have ht : ((s[k].toNat : Int) != (p : Int)) = true := by rw [hDk.out]; simp; omega
        have hF := Lib.hid (fun n => spec_no h0 hk1 hlt he (below_drewN HB.out n))
        go_wp2
        go_ret2
        exact hF.out _
    · have hF := Lib.hid (spec_yes hle HALL.out (by omega) HB.out)
      go_wp2
      go_ret2
      exact hF.out
theorem spec_none {s : ByteArray} {p : Nat} {w : World} (hle : ¬ p + 1 ≤ s.size) : SpecPad s p w (.returned (.tuple #[.int .i64 0, .bool false])) w :=
  ⟨false, ⟨(fun h => by cases h), fun h => absurd h.1 hle⟩, rfl, Below.refl _ _⟩
set_option maxRecDepth 100000 in
theorem spec_over (s : ByteArray) (p : Nat) (w : World) (h0 : 0 < s.size) (hn : s.size ≤ 70000) (hp : p < 256) (hlast : s[s.size - 1].toNat = p) (hle : ¬ p + 1 ≤ s.size) :
   Calls Try.prog 13 #[.string s] w (SpecPad s p w) := by
  have hF := Lib.hid (spec_none (w := w) hle)
  go_enter Try.func13, Try.ntmps13
  go_wp2
  go_ret2
  exact hF.out
def ImplPad (s : ByteArray) (p : Nat) (w : World) (e : Ending) (w' : World) : Prop :=
  ∃ g : Nat, e = .returned (.tuple #[.int .i64 ((p : Int) + 1), .int .u8 (g : Int)]) ∧ (IsPad s.size p (rev s) → g = 255) ∧ (¬ IsPad s.size p (rev s) → g = 0) ∧ Below w.heap.size w w'
theorem zz_any (n : Nat) (b cap p : Nat) (w : World) (h0 : 0 < n) (hn : n ≤ 70000) (hp : p < 256)
   (B : Nat → Nat) (hB : ∀ j, B j < 256) (hBp : B 0 = p) (hc : ∀ j, j < n → w.cell? ⟨b, n - 1 - j, none⟩ = some (.int .u8 (B j : Int))) :
   Calls Try.prog 25 #[.slice (some ⟨b, 0, none⟩) n cap] w (Verdict n p B w) := by
  have HE := hide (exam_any n b cap p w h0 hn hp B hB hBp hc)
  clear hB hBp hc
  go_enter Try.func25, Try.ntmps25
  go_wp2_with (go_at_call 36; refine HE.out.mono ?_; rintro e w' ⟨g, rfl, hv1, hv2, rfl⟩)
  go_ret2
  exact ⟨g, rfl, hv1, hv2, rfl⟩
set_option maxRecDepth 100000 in
theorem impl_any (s : ByteArray) (p : Nat) (w : World) (h0 : 0 < s.size) (hn : s.size ≤ 70000) (hp : p < 256) (hlast : D s (s.size - 1) = p) :
   Calls Try.prog 12 #[.string s] w (ImplPad s p w) := by
  have kc := fun (w : World) (s : ByteArray) => run_bytes_of_string (P := Try.prog) w 9 59 5 s Try.underlying9 Try.underlying59 Try.underlying5
  have HZ := hide (fun (W : World) (b cap : Nat) => zz_any s.size b cap p W h0 hn hp (rev s) (fun _ => D_lt _ _) hlast)
  go_enter Try.func12, Try.ntmps12
  go_wp2_with fail
  refine (HZ.out _ _ _ (fun j hj => bytes_new w s _ 5 _ _ (by omega))).mono ?_
  rintro e w' ⟨g, rfl, hv1, hv2, rfl⟩
  go_wp2
  go_ret2
  exact ⟨g, rfl, hv1, hv2, ((Below.refl _ _).alloc (Nat.le_refl _) _).drew⟩
set_option maxRecDepth 100000 in
theorem impl_empty (s : ByteArray) (w : World) (h0 : s.size = 0) :
   Calls Try.prog 12 #[.string s] w (fun e w' => e = .returned (.tuple #[.int .i64 0, .int .u8 0]) ∧ Below w.heap.size w w') := by
  have kc := fun (w : World) (s : ByteArray) => run_bytes_of_string (P := Try.prog) w 9 59 5 s Try.underlying9 Try.underlying59 Try.underlying5
  have hlt : (s.size : Int) < 1 := by omega
  clear h0
  go_enter Try.func12, Try.ntmps12
  go_wp2
  go_ret2
  exact ⟨rfl, ((Below.refl _ _).alloc (Nat.le_refl _) _).drew⟩
set_option maxRecDepth 100000 in
theorem spec_empty (s : ByteArray) (w : World) (h0 : ((s.size : Int) == 0) = true) :
   Calls Try.prog 13 #[.string s] w (fun e w' => e = .returned (.tuple #[.int .i64 0, .bool false]) ∧ w = w') := by
  go_enter Try.func13, Try.ntmps13
  go_wp2
  go_ret2
  exact ⟨rfl, rfl⟩
theorem spec_all (s : ByteArray) (p : Nat) (w : World) (h0 : 0 < s.size) (hn : s.size ≤ 70000) (hp : p < 256) (hlast : D s (s.size - 1) = p) :
   Calls Try.prog 13 #[.string s] w (SpecPad s p w) := by
  have hl : s[s.size - 1].toNat = p := by rw [D_at]; exact hlast
  by_cases hle : p + 1 ≤ s.size
  · exact spec_any s p w h0 hn hp hl hle
  · exact spec_over s p w h0 hn hp hl hle
set_option maxRecDepth 100000 in
theorem walk (a0 : ByteArray) (w0 : a0.size ≤ maxLen) (w : World) :
    Calls Try.prog 5 #[.string a0] w fun e w' => e = .returned (.bool true) ∧ Below w.heap.size w w' := by
  by_cases hz : 2147483647 < (a0.size : Int)
  · go_enter Try.func5, Try.ntmps5
    go_wp2
    go_ret
    exact ⟨rfl, Below.refl _ _⟩
  by_cases hz2 : 70000 < (a0.size : Int)
  · go_enter Try.func5, Try.ntmps5
    go_wp2
    go_ret
    exact ⟨rfl, Below.refl _ _⟩
  by_cases h0 : a0.size = 0
  · have h0b : ((a0.size : Int) == 0) = true := by rw [h0]; rfl
    have H0 := Lib.hid h0
    clear h0
    go_enter Try.func5, Try.ntmps5
    go_wp2_with fail
    refine (impl_empty a0 w H0.out).mono ?_
    rintro e w1 ⟨rfl, hb⟩
    go_wp2_with fail
    refine (spec_empty a0 w1 h0b).mono ?_
    rintro e w' ⟨rfl, rfl⟩
    go_wp2
    go_ret
    exact ⟨rfl, hb⟩
  · have hc1 := hide (fun w => impl_any a0 (D a0 (a0.size - 1)) w (by omega) (by omega) (D_lt _ _) rfl)
    have hc2 := hide (fun w => spec_all a0 (D a0 (a0.size - 1)) w (by omega) (by omega) (D_lt _ _) rfl)
    generalize D a0 (a0.size - 1) = p at *
    have hn : 0 < a0.size := by omega
    clear h0
    go_enter Try.func5, Try.ntmps5
    go_wp2_with fail
    refine (hc1.out w).mono ?_
    rintro e w1 ⟨g, rfl, hg1, hg2, hb⟩
    have HG1 := Lib.hid hg1
    have HG2 := Lib.hid hg2
    clear hg1 hg2
    go_wp2_with fail
    refine (hc2.out w1).mono ?_
    rintro e w2 ⟨ok, hok, rfl, hb2⟩
    have HOK := Lib.hid hok
    clear hok
    have HB := Lib.hid (hb.trans (hb2.mono hb.size))
    cases ok
    · obtain rfl : g = 0 := HG2.out fun h => by have := HOK.out.2 h; cases this
      go_wp2
      go_ret
      exact ⟨rfl, HB.out⟩
    · obtain rfl : g = 255 := HG1.out (HOK.out.1 rfl)
      go_wp2
      go_ret
      exact ⟨rfl, HB.out⟩
set_option maxRecDepth 100000 in
theorem lifted (os : Os) (started : os.Started) (H : Type) (enc : TypeId × Value → H) :
    ReturnsInHanded {} Try.checked os 5 .any (Rows.fnPaddingSpec.pre6 enc Try.prog Try.f5 Rows.fnPaddingRow.domain false) (Rows.fnPaddingSpec.post enc Try.prog Try.f5 false true false false) := by
  refine returnsInHanded_of_change (C := Try.checked) own started (by kernel_rfl) Try.func5
    (ChangeSpec.witness6 (enc := enc) (C := Try.checked) false ⟨#[], #[.string ByteArray.empty], []⟩ 8 (by kernel_rfl) (by kernel_rfl) (by kernel_rfl) (by kernel_rfl)) ?_
  intro W base args ds gs before hval0 hW hcnd hreach
  have hval : ∀ (j : Nat) t v, Try.f5.params[j]? = some t → args[j]? = some v → Value.okWide Try.prog W .any base t v := hval0
  have hW' := hW
  obtain ⟨p, q, hA0, hV, rfl, hfz, hnd⟩ := hW
  have hA : DataW.TrodAll enc Try.prog W 0 (fun _ => true) true Try.f5.params.toList args.toList ds p := hA0
  rw [Try.params5] at hA hval
  obtain ⟨v0, vs0, d0, ds0, p0, q0, hargs, rfl, rfl, h0, r0⟩ := trodAll_cons hA
  obtain ⟨rfl, rfl, rfl⟩ := trodAll_nil r0
  obtain rfl : args = #[v0] := by cases args; simp_all
  obtain ⟨rfl, rfl⟩ := trodVars_none hV
  obtain ⟨a0, rfl, rfl, rfl, w0⟩ := open_string Try.underlying9 (hval 0 9 v0 rfl rfl) h0
  clear hA0 hval0
  refine (walk a0 w0 W).mono fun e W' ⟨he, hb⟩ => ?_
  subst he
  exact ⟨_, rfl, law_post laidOut (by kernel_rfl) rfl Try.underlying4 rfl hW' rfl rfl rfl hb⟩

theorem over : Rows.fnPaddingRow.holds Try.pinned (OpenSpec.ofChange Rows.fnPaddingSpec) :=
  OpenClaim.holds_of_wide 5 Try.f5 rfl rfl rfl rfl rfl rfl rfl ⟨rfl, rfl, rfl, rfl, rfl⟩ rfl rfl rfl rfl rfl (by kernel_rfl) Try.func5 (by kernel_rfl)
    (of_decide_eq_true (by kernel_rfl)) (by unfold Func.isWrapper; first | (rw [if_pos (by decide +kernel)]; kernel_rfl) | (rw [if_neg (by decide +kernel)]; exact ⟨rfl, rfl⟩))
    (fun os started H enc _ => lifted os started H enc)

/-- THE STATEMENT -/
theorem proved : Rows.FnPaddingSaid := over
#print axioms proved
end Go.Proofs.Ytlofkkmonkdjjaa.fnPadding
