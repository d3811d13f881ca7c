/- Two messages, compared. -/
import Derived.Test.YthfpfakdchhodaaDoorSame
namespace Go.Proofs.YthfpfakdchhodaaDoor
open Go.ChangeShapes Go.WideShapes Go.ChangeAt Go.RowKit
set_option linter.unusedVariables false
/-- A message as a value. -/
abbrev msgRow (t : Int) (v : Bool) (mj mn tm : Int) (rn ck ss : ByteArray) (SU CO EX CE TY PA : Value) (ha sg : Int) (sn hi pu : ByteArray) (kx ct cu : Int) (ve cx : ByteArray) (EN : Value) : List Value :=
  [.int .u8 t, .bool v, .int .u8 mj, .int .u8 mn, .int .u32 tm, .string rn, .string ck, .string ss, SU, CO, EX, CE, TY, PA, .int .u16 ha, .int .u16 sg, .string sn, .string hi, .string pu, .int .i64 kx, .int .u8 ct, .int .u16 cu, .string ve, .string cx, EN]
theorem sameExts_nil (A A' : Option Addr) (c c' : Nat) (w : World) : Calls Tryd.prog 77 #[.slice A 0 c, .slice A' 0 c'] w fun e w' => e = .returned (.bool true) ∧ w = w' := by
  go_enter Tryd.func77, Tryd.ntmps77
  go_wp2_with fail
  refine (list_nil_ext A A' c c' _ w).mono ?_
  rintro e w1 ⟨rfl, rfl⟩
  go_wp2
  go_ret
  exact ⟨rfl, rfl⟩
set_option maxHeartbeats 4000000 in
set_option maxRecDepth 100000 in
theorem sameMessage_of (t : Int) (v : Bool) (mj mn tm : Int) (rn ck ss : ByteArray) (ha sg : Int) (sn hi pu : ByteArray) (kx ct cu : Int) (ve cx : ByteArray) (SU CO CE TY PA SU' CO' CE' TY' PA' : Value) (w : World)
    (hSU : SameL 56 (.func (.func 57) #[] #[]) SU SU' w) (hCO : SameL 75 (.func (.func 76) #[] #[]) CO CO' w) (hCE : SameL 54 (.func (.func 55) #[] #[]) CE CE' w) (hTY : SameL 75 (.func (.func 76) #[] #[]) TY TY' w) (hPA : SameL 58 (.func (.func 59) #[] #[]) PA PA' w) :
    Calls Tryd.prog 38 #[.agg (msgRow t v mj mn tm rn ck ss SU CO (.slice none 0 0) CE TY PA ha sg sn hi pu kx ct cu ve cx (.slice none 0 0)).toArray, .agg (msgRow t v mj mn tm rn ck ss SU' CO' (.slice none 0 0) CE' TY' PA' ha sg sn hi pu kx ct cu ve cx (.slice none 0 0)).toArray] w fun e w' => e = .returned (.bool true) ∧ Below w.heap.size w w' := by
  have HSU := hide hSU
  have HCO := hide hCO
  have HCE := hide hCE
  have HTY := hide hTY
  have HPA := hide hPA
  clear hSU hCO hCE hTY hPA
  obtain ⟨kb, ks, ka, kc⟩ := two_keep (a := msgRow t v mj mn tm rn ck ss SU CO (.slice none 0 0) CE TY PA ha sg sn hi pu kx ct cu ve cx (.slice none 0 0)) (b := msgRow t v mj mn tm rn ck ss SU' CO' (.slice none 0 0) CE' TY' PA' ha sg sn hi pu kx ct cu ve cx (.slice none 0 0)) (((Below.refl _ w).alloc (Nat.le_refl _) (.cells (msgRow t v mj mn tm rn ck ss SU CO (.slice none 0 0) CE TY PA ha sg sn hi pu kx ct cu ve cx (.slice none 0 0)).toArray 52)).alloc (by simp) (.cells (msgRow t v mj mn tm rn ck ss SU' CO' (.slice none 0 0) CE' TY' PA' ha sg sn hi pu kx ct cu ve cx (.slice none 0 0)).toArray 52)) (by simp) (fun i => (((Blk.new w _ _).alloc _).cell i)) (fun i => (Blk.new_at (w.heap.size + 1) (by simp) _ _).cell i) (Below.refl _ _)
  have KB := Lib.hid kb
  have KS := Lib.hid ks
  have KA := Lib.hid ka
  have KC := Lib.hid kc
  clear kb ks ka kc
  go_enter Tryd.func38, Tryd.ntmps38
  go_wp2_with fail
  refine (HSU.out _ KB.out).mono ?_
  rintro e w0 ⟨rfl, hb⟩
  obtain ⟨kb, ks, ka, kc⟩ := two_keep KB.out KS.out KA.out KC.out hb
  clear KB KS KA KC hb
  have KB := Lib.hid kb
  have KS := Lib.hid ks
  have KA := Lib.hid ka
  have KC := Lib.hid kc
  clear kb ks
  go_wp2_with fail
  clear ka kc
  refine (HCO.out _ KB.out).mono ?_
  rintro e w1 ⟨rfl, hb⟩
  obtain ⟨kb, ks, ka, kc⟩ := two_keep KB.out KS.out KA.out KC.out hb
  clear KB KS KA KC hb
  have KB := Lib.hid kb
  have KS := Lib.hid ks
  have KA := Lib.hid ka
  have KC := Lib.hid kc
  clear kb ks
  go_wp2_with fail
  clear ka kc
  refine (sameExts_nil none none 0 0 _).mono ?_
  rintro e w2 ⟨rfl, rfl⟩
  have hb := Below.refl w1.heap.size w1
  obtain ⟨kb, ks, ka, kc⟩ := two_keep KB.out KS.out KA.out KC.out hb
  clear KB KS KA KC hb
  have KB := Lib.hid kb
  have KS := Lib.hid ks
  have KA := Lib.hid ka
  have KC := Lib.hid kc
  clear kb ks
  go_wp2_with fail
  clear ka kc
  refine (HCE.out _ KB.out).mono ?_
  rintro e w3 ⟨rfl, hb⟩
  obtain ⟨kb, ks, ka, kc⟩ := two_keep KB.out KS.out KA.out KC.out hb
  clear KB KS KA KC hb
  have KB := Lib.hid kb
  have KS := Lib.hid ks
  have KA := Lib.hid ka
  have KC := Lib.hid kc
  clear kb ks
  go_wp2_with fail
  clear ka kc
  refine (HTY.out _ KB.out).mono ?_
  rintro e w4 ⟨rfl, hb⟩
  obtain ⟨kb, ks, ka, kc⟩ := two_keep KB.out KS.out KA.out KC.out hb
  clear KB KS KA KC hb
  have KB := Lib.hid kb
  have KS := Lib.hid ks
  have KA := Lib.hid ka
  have KC := Lib.hid kc
  clear kb ks
  go_wp2_with fail
  clear ka kc
  refine (HPA.out _ KB.out).mono ?_
  rintro e w5 ⟨rfl, hb⟩
  obtain ⟨kb, ks, ka, kc⟩ := two_keep KB.out KS.out KA.out KC.out hb
  clear KB KS KA KC hb
  have KB := Lib.hid kb
  have KS := Lib.hid ks
  have KA := Lib.hid ka
  have KC := Lib.hid kc
  clear kb ks
  go_wp2_with fail
  clear ka kc
  refine (list_nil_entry none none 0 0 _ _).mono ?_
  rintro e w9 ⟨rfl, rfl⟩
  go_wp2
  go_ret
  exact ⟨rfl, KB.out⟩
end Go.Proofs.YthfpfakdchhodaaDoor
