/-
  A proof of Rows.FnIdentifierOfMethodLineSaid: the frame is the kit's template for this function; the walk is ours.
-/
import Derived.Test.Qxb6602240aRows
import Derived.WalkKit
import Derived.ProofKit
import Derived.OpenShut
import Derived.ShutString
import Derived.Below
import Derived.HandedShaped
import Derived.Test.Qxb6602240aMethod
namespace Go.Proofs.Qxb6602240a.fnIdentifierOfMethodLine
open Go.ChangeShapes Go.WideShapes Go.ChangeAt Go.RowKit
open Go.ChangeMaps (open_string shut_string)
set_option linter.unusedVariables false      -- a walk need not use every 'w<i>' (that an integer argument fits its kind)

theorem own : ownKnob Try.prog.godebug = none := by kernel_rfl

/-! ### STEP 1: THE WALK: the Go text returns true. -/
set_option maxHeartbeats 4000000 in
theorem walk_big (a0 : Bool) (a1 : ByteArray) (a2 : ByteArray) (a3 : ByteArray) (a4 : ByteArray) (w1 : a1.size ≤ maxLen) (w2 : a2.size ≤ maxLen) (w3 : a3.size ≤ maxLen) (w4 : a4.size ≤ maxLen) (w : World) (hbig : 1048576 < a1.size + a2.size + a3.size + a4.size) :
    Calls Try.prog 3 #[.bool a0, .string a1, .string a2, .string a3, .string a4] w fun e w' => e = .returned (.bool true) ∧ Below w.heap.size w w' := by
  go_enter Try.func3, Try.ntmps3
  go_wp2_with fail
  refine (Api.bytes4_no a0 a1 a2 a3 a4 w1 w2 w3 w4 hbig w).mono ?_
  rintro e w' ⟨rfl, hw'⟩
  subst hw'
  go_wp2
  go_ret
  exact ⟨rfl, Below.refl _ _⟩

set_option maxHeartbeats 4000000 in
theorem walk_long (a0 : Bool) (a1 : ByteArray) (a2 : ByteArray) (a3 : ByteArray) (a4 : ByteArray) (w : World) (hle : a1.size + a2.size + a3.size + a4.size ≤ 1048576) (hl : ¬ (a1.size ≤ 262144 ∧ a2.size ≤ 262144 ∧ a3.size ≤ 262144 ∧ a4.size ≤ 262144)) :
    Calls Try.prog 3 #[.bool a0, .string a1, .string a2, .string a3, .string a4] w fun e w' => e = .returned (.bool true) ∧ Below w.heap.size w w' := by
  by_cases h1 : 262144 < a1.size
  · clear hl
    go_enter Try.func3, Try.ntmps3
    go_wp2_with fail
    refine (Api.bytes4_yes a0 a1 a2 a3 a4 hle w).mono ?_
    rintro e w1 ⟨rfl, hw1⟩
    subst hw1
    go_wp2
    go_ret
    exact ⟨rfl, Below.refl _ _⟩
  by_cases h2 : 262144 < a2.size
  · clear hl
    go_enter Try.func3, Try.ntmps3
    go_wp2_with fail
    refine (Api.bytes4_yes a0 a1 a2 a3 a4 hle w).mono ?_
    rintro e w1 ⟨rfl, hw1⟩
    subst hw1
    go_wp2
    go_ret
    exact ⟨rfl, Below.refl _ _⟩
  by_cases h3 : 262144 < a3.size
  · clear hl
    go_enter Try.func3, Try.ntmps3
    go_wp2_with fail
    refine (Api.bytes4_yes a0 a1 a2 a3 a4 hle w).mono ?_
    rintro e w1 ⟨rfl, hw1⟩
    subst hw1
    go_wp2
    go_ret
    exact ⟨rfl, Below.refl _ _⟩
  have h4 : 262144 < a4.size := by omega
  clear hl
  go_enter Try.func3, Try.ntmps3
  go_wp2_with fail
  refine (Api.bytes4_yes a0 a1 a2 a3 a4 hle w).mono ?_
  rintro e w1 ⟨rfl, hw1⟩
  subst hw1
  go_wp2
  go_ret
  exact ⟨rfl, Below.refl _ _⟩

set_option maxHeartbeats 4000000 in
theorem walk_typ (a0 : Bool) (a1 : ByteArray) (a2 : ByteArray) (a3 : ByteArray) (a4 : ByteArray) (w : World) (hle : a1.size + a2.size + a3.size + a4.size ≤ 1048576) (s1 : a1.size ≤ 262144) (s2 : a2.size ≤ 262144) (s3 : a3.size ≤ 262144) (s4 : a4.size ≤ 262144) (Ht : Hid (Api.hasAny a1.data.toList (⟨#[42, 41, 91]⟩ : ByteArray).data.toList = true)) :
    Calls Try.prog 3 #[.bool a0, .string a1, .string a2, .string a3, .string a4] w fun e w' => e = .returned (.bool true) ∧ Below w.heap.size w w' := by
  go_enter Try.func3, Try.ntmps3
  go_wp2_with fail
  refine (Api.bytes4_yes a0 a1 a2 a3 a4 hle w).mono ?_
  rintro e w1 ⟨rfl, hw1⟩
  subst hw1
  go_wp2_with fail
  refine (Api.hasAnyOf_go a1 ⟨#[42, 41, 91]⟩ (by omega) (by decide) _).mono ?_
  rintro e w2 ⟨rfl, hw2⟩
  subst hw2
  rw [Ht.out]
  go_wp2
  go_ret
  exact ⟨rfl, Below.refl _ _⟩

set_option maxHeartbeats 4000000 in
theorem walk_name (a0 : Bool) (a1 : ByteArray) (a2 : ByteArray) (a3 : ByteArray) (a4 : ByteArray) (w : World) (hle : a1.size + a2.size + a3.size + a4.size ≤ 1048576) (s1 : a1.size ≤ 262144) (s2 : a2.size ≤ 262144) (s3 : a3.size ≤ 262144) (s4 : a4.size ≤ 262144) (Ht : Hid (Api.hasAny a1.data.toList (⟨#[42, 41, 91]⟩ : ByteArray).data.toList = false)) (Hn : Hid (Api.hasAny a3.data.toList (⟨#[32, 91, 40]⟩ : ByteArray).data.toList = true)) :
    Calls Try.prog 3 #[.bool a0, .string a1, .string a2, .string a3, .string a4] w fun e w' => e = .returned (.bool true) ∧ Below w.heap.size w w' := by
  go_enter Try.func3, Try.ntmps3
  go_wp2_with fail
  refine (Api.bytes4_yes a0 a1 a2 a3 a4 hle w).mono ?_
  rintro e w1 ⟨rfl, hw1⟩
  subst hw1
  go_wp2_with fail
  refine (Api.hasAnyOf_go a1 ⟨#[42, 41, 91]⟩ (by omega) (by decide) _).mono ?_
  rintro e w2 ⟨rfl, hw2⟩
  subst hw2
  rw [Ht.out]
  go_wp2_with fail
  refine (Api.hasAnyOf_go a3 ⟨#[32, 91, 40]⟩ (by omega) (by decide) _).mono ?_
  rintro e w3 ⟨rfl, hw3⟩
  subst hw3
  rw [Hn.out]
  go_wp2
  go_ret
  exact ⟨rfl, Below.refl _ _⟩

set_option maxHeartbeats 4000000 in
theorem walk_params (a0 : Bool) (a1 : ByteArray) (a2 : ByteArray) (a3 : ByteArray) (a4 : ByteArray) (w : World) (hle : a1.size + a2.size + a3.size + a4.size ≤ 1048576) (s1 : a1.size ≤ 262144) (s2 : a2.size ≤ 262144) (s3 : a3.size ≤ 262144) (s4 : a4.size ≤ 262144) (Ht : Hid (Api.hasAny a1.data.toList (⟨#[42, 41, 91]⟩ : ByteArray).data.toList = false)) (Hn : Hid (Api.hasAny a3.data.toList (⟨#[32, 91, 40]⟩ : ByteArray).data.toList = false)) (hp : 0 < a2.size) (hp1 : ∀ h : 0 < a2.size, ((((a2[0]'h).toNat : Nat) : Int) != 91) = true) :
    Calls Try.prog 3 #[.bool a0, .string a1, .string a2, .string a3, .string a4] w fun e w' => e = .returned (.bool true) ∧ Below w.heap.size w w' := by
  go_enter Try.func3, Try.ntmps3
  go_wp2_with fail
  refine (Api.bytes4_yes a0 a1 a2 a3 a4 hle w).mono ?_
  rintro e w1 ⟨rfl, hw1⟩
  subst hw1
  go_wp2_with fail
  refine (Api.hasAnyOf_go a1 ⟨#[42, 41, 91]⟩ (by omega) (by decide) _).mono ?_
  rintro e w2 ⟨rfl, hw2⟩
  subst hw2
  rw [Ht.out]
  go_wp2_with fail
  refine (Api.hasAnyOf_go a3 ⟨#[32, 91, 40]⟩ (by omega) (by decide) _).mono ?_
  rintro e w3 ⟨rfl, hw3⟩
  subst hw3
  rw [Hn.out]
  go_wp2
  go_ret
  exact ⟨rfl, Below.refl _ _⟩

set_option maxHeartbeats 4000000 in
theorem walk_close0 (a0 : Bool) (a1 : ByteArray) (a2 : ByteArray) (a3 : ByteArray) (a4 : ByteArray) (w : World) (hle : a1.size + a2.size + a3.size + a4.size ≤ 1048576) (s1 : a1.size ≤ 262144) (s2 : a2.size ≤ 262144) (s3 : a3.size ≤ 262144) (s4 : a4.size ≤ 262144) (Ht : Hid (Api.hasAny a1.data.toList (⟨#[42, 41, 91]⟩ : ByteArray).data.toList = false)) (Hn : Hid (Api.hasAny a3.data.toList (⟨#[32, 91, 40]⟩ : ByteArray).data.toList = false)) (hp : ¬ 0 < a2.size) (hc : (0 : Int) ≤ Lib.index a2.data.toList [41, 32]) :
    Calls Try.prog 3 #[.bool a0, .string a1, .string a2, .string a3, .string a4] w fun e w' => e = .returned (.bool true) ∧ Below w.heap.size w w' := by
  go_enter Try.func3, Try.ntmps3
  go_wp2_with fail
  refine (Api.bytes4_yes a0 a1 a2 a3 a4 hle w).mono ?_
  rintro e w1 ⟨rfl, hw1⟩
  subst hw1
  go_wp2_with fail
  refine (Api.hasAnyOf_go a1 ⟨#[42, 41, 91]⟩ (by omega) (by decide) _).mono ?_
  rintro e w2 ⟨rfl, hw2⟩
  subst hw2
  rw [Ht.out]
  go_wp2_with fail
  refine (Api.hasAnyOf_go a3 ⟨#[32, 91, 40]⟩ (by omega) (by decide) _).mono ?_
  rintro e w3 ⟨rfl, hw3⟩
  subst hw3
  rw [Hn.out]
  go_wp2_with fail
  refine (Api.close_go a2 (by omega) _).mono ?_
  rintro e w4 ⟨rfl, hw4⟩
  subst hw4
  go_wp2
  go_ret
  exact ⟨rfl, Below.refl _ _⟩

set_option maxHeartbeats 4000000 in
theorem walk_tail0 (a0 : Bool) (a1 : ByteArray) (a2 : ByteArray) (a3 : ByteArray) (a4 : ByteArray) (w : World) (hle : a1.size + a2.size + a3.size + a4.size ≤ 1048576) (s1 : a1.size ≤ 262144) (s2 : a2.size ≤ 262144) (s3 : a3.size ≤ 262144) (s4 : a4.size ≤ 262144) (Ht : Hid (Api.hasAny a1.data.toList (⟨#[42, 41, 91]⟩ : ByteArray).data.toList = false)) (Hn : Hid (Api.hasAny a3.data.toList (⟨#[32, 91, 40]⟩ : ByteArray).data.toList = false)) (hp : ¬ 0 < a2.size) (hc : Lib.index a2.data.toList [41, 32] < 0) (htl : 0 < a4.size) (Hd : Hid (Api.delims.contains (a4[0]'htl) = false)) :
    Calls Try.prog 3 #[.bool a0, .string a1, .string a2, .string a3, .string a4] w fun e w' => e = .returned (.bool true) ∧ Below w.heap.size w w' := by
  go_enter Try.func3, Try.ntmps3
  go_wp2_with fail
  refine (Api.bytes4_yes a0 a1 a2 a3 a4 hle w).mono ?_
  rintro e w1 ⟨rfl, hw1⟩
  subst hw1
  go_wp2_with fail
  refine (Api.hasAnyOf_go a1 ⟨#[42, 41, 91]⟩ (by omega) (by decide) _).mono ?_
  rintro e w2 ⟨rfl, hw2⟩
  subst hw2
  rw [Ht.out]
  go_wp2_with fail
  refine (Api.hasAnyOf_go a3 ⟨#[32, 91, 40]⟩ (by omega) (by decide) _).mono ?_
  rintro e w3 ⟨rfl, hw3⟩
  subst hw3
  rw [Hn.out]
  go_wp2_with fail
  refine (Api.close_go a2 (by omega) _).mono ?_
  rintro e w4 ⟨rfl, hw4⟩
  subst hw4
  go_wp2_with fail
  refine (Api.isDelim_go _ _).mono ?_
  rintro e w5 ⟨rfl, hw5⟩
  subst hw5
  rw [Hd.out]
  go_wp2
  go_ret
  exact ⟨rfl, Below.refl _ _⟩

set_option maxHeartbeats 4000000 in
theorem walk_plain00 (a1 : ByteArray) (a2 : ByteArray) (a3 : ByteArray) (a4 : ByteArray) (w : World) (hle : a1.size + a2.size + a3.size + a4.size ≤ 1048576) (s1 : a1.size ≤ 262144) (s2 : a2.size ≤ 262144) (s3 : a3.size ≤ 262144) (s4 : a4.size ≤ 262144) (Ht : Hid (Api.hasAny a1.data.toList (⟨#[42, 41, 91]⟩ : ByteArray).data.toList = false)) (Hn : Hid (Api.hasAny a3.data.toList (⟨#[32, 91, 40]⟩ : ByteArray).data.toList = false)) (hp : ¬ 0 < a2.size) (hc : Lib.index a2.data.toList [41, 32] < 0) (htl : ¬ 0 < a4.size) (Hp : Hid (Api.ParamsFit a2.data.toList)) (Htl : Hid (Api.TailFits a4.data.toList)) (m : Int) (hm : w.cell? ⟨0, 0, none⟩ = some (.int .i64 m)) :
    Calls Try.prog 3 #[.bool false, .string a1, .string a2, .string a3, .string a4] w fun e w' => e = .returned (.bool true) ∧ Below w.heap.size w w' := by
  have Hc : Hid _ := hc
  go_enter Try.func3, Try.ntmps3
  go_wp2_with fail
  refine (Api.bytes4_yes false a1 a2 a3 a4 hle w).mono ?_
  rintro e w1 ⟨rfl, hw1⟩
  subst hw1
  go_wp2_with fail
  refine (Api.hasAnyOf_go a1 ⟨#[42, 41, 91]⟩ (by omega) (by decide) _).mono ?_
  rintro e w2 ⟨rfl, hw2⟩
  subst hw2
  rw [Ht.out]
  go_wp2_with fail
  refine (Api.hasAnyOf_go a3 ⟨#[32, 91, 40]⟩ (by omega) (by decide) _).mono ?_
  rintro e w3 ⟨rfl, hw3⟩
  subst hw3
  rw [Hn.out]
  go_wp2_with fail
  refine (Api.close_go a2 (by omega) _).mono ?_
  rintro e w4 ⟨rfl, hw4⟩
  subst hw4
  go_wp2_with fail
  refine (Api.exported_of _ (a1 ++ ⟨#[46]⟩ ++ a3) _ (Api.method_plain a1 a2 a3 a4 hle Ht Hp Hc Hn Htl m _ hm)).mono ?_
  rintro e w6 ⟨rfl, hb⟩
  go_wp2
  go_ret
  exact ⟨by simp, hb⟩

set_option maxHeartbeats 4000000 in
theorem walk_plain01 (a1 : ByteArray) (a2 : ByteArray) (a3 : ByteArray) (a4 : ByteArray) (w : World) (hle : a1.size + a2.size + a3.size + a4.size ≤ 1048576) (s1 : a1.size ≤ 262144) (s2 : a2.size ≤ 262144) (s3 : a3.size ≤ 262144) (s4 : a4.size ≤ 262144) (Ht : Hid (Api.hasAny a1.data.toList (⟨#[42, 41, 91]⟩ : ByteArray).data.toList = false)) (Hn : Hid (Api.hasAny a3.data.toList (⟨#[32, 91, 40]⟩ : ByteArray).data.toList = false)) (hp : ¬ 0 < a2.size) (hc : Lib.index a2.data.toList [41, 32] < 0) (htl : 0 < a4.size) (Hd : Hid (Api.delims.contains (a4[0]'htl) = true)) (Hp : Hid (Api.ParamsFit a2.data.toList)) (Htl : Hid (Api.TailFits a4.data.toList)) (m : Int) (hm : w.cell? ⟨0, 0, none⟩ = some (.int .i64 m)) :
    Calls Try.prog 3 #[.bool false, .string a1, .string a2, .string a3, .string a4] w fun e w' => e = .returned (.bool true) ∧ Below w.heap.size w w' := by
  have Hc : Hid _ := hc
  go_enter Try.func3, Try.ntmps3
  go_wp2_with fail
  refine (Api.bytes4_yes false a1 a2 a3 a4 hle w).mono ?_
  rintro e w1 ⟨rfl, hw1⟩
  subst hw1
  go_wp2_with fail
  refine (Api.hasAnyOf_go a1 ⟨#[42, 41, 91]⟩ (by omega) (by decide) _).mono ?_
  rintro e w2 ⟨rfl, hw2⟩
  subst hw2
  rw [Ht.out]
  go_wp2_with fail
  refine (Api.hasAnyOf_go a3 ⟨#[32, 91, 40]⟩ (by omega) (by decide) _).mono ?_
  rintro e w3 ⟨rfl, hw3⟩
  subst hw3
  rw [Hn.out]
  go_wp2_with fail
  refine (Api.close_go a2 (by omega) _).mono ?_
  rintro e w4 ⟨rfl, hw4⟩
  subst hw4
  go_wp2_with fail
  refine (Api.isDelim_go _ _).mono ?_
  rintro e w5 ⟨rfl, hw5⟩
  subst hw5
  rw [Hd.out]
  go_wp2_with fail
  refine (Api.exported_of _ (a1 ++ ⟨#[46]⟩ ++ a3) _ (Api.method_plain a1 a2 a3 a4 hle Ht Hp Hc Hn Htl m _ hm)).mono ?_
  rintro e w6 ⟨rfl, hb⟩
  go_wp2
  go_ret
  exact ⟨by simp, hb⟩

set_option maxHeartbeats 4000000 in
theorem walk_star00 (a1 : ByteArray) (a2 : ByteArray) (a3 : ByteArray) (a4 : ByteArray) (w : World) (hle : a1.size + a2.size + a3.size + a4.size ≤ 1048576) (s1 : a1.size ≤ 262144) (s2 : a2.size ≤ 262144) (s3 : a3.size ≤ 262144) (s4 : a4.size ≤ 262144) (Ht : Hid (Api.hasAny a1.data.toList (⟨#[42, 41, 91]⟩ : ByteArray).data.toList = false)) (Hn : Hid (Api.hasAny a3.data.toList (⟨#[32, 91, 40]⟩ : ByteArray).data.toList = false)) (hp : ¬ 0 < a2.size) (hc : Lib.index a2.data.toList [41, 32] < 0) (htl : ¬ 0 < a4.size) (Hp : Hid (Api.ParamsFit a2.data.toList)) (Htl : Hid (Api.TailFits a4.data.toList)) (m : Int) (hm : w.cell? ⟨0, 0, none⟩ = some (.int .i64 m)) :
    Calls Try.prog 3 #[.bool true, .string a1, .string a2, .string a3, .string a4] w fun e w' => e = .returned (.bool true) ∧ Below w.heap.size w w' := by
  have Hc : Hid _ := hc
  go_enter Try.func3, Try.ntmps3
  go_wp2_with fail
  refine (Api.bytes4_yes true a1 a2 a3 a4 hle w).mono ?_
  rintro e w1 ⟨rfl, hw1⟩
  subst hw1
  go_wp2_with fail
  refine (Api.hasAnyOf_go a1 ⟨#[42, 41, 91]⟩ (by omega) (by decide) _).mono ?_
  rintro e w2 ⟨rfl, hw2⟩
  subst hw2
  rw [Ht.out]
  go_wp2_with fail
  refine (Api.hasAnyOf_go a3 ⟨#[32, 91, 40]⟩ (by omega) (by decide) _).mono ?_
  rintro e w3 ⟨rfl, hw3⟩
  subst hw3
  rw [Hn.out]
  go_wp2_with fail
  refine (Api.close_go a2 (by omega) _).mono ?_
  rintro e w4 ⟨rfl, hw4⟩
  subst hw4
  go_wp2_with fail
  refine (Api.exported_of _ (a1 ++ ⟨#[46]⟩ ++ a3) _ (Api.method_star a1 a2 a3 a4 hle Ht Hp Hc Hn Htl m _ hm)).mono ?_
  rintro e w6 ⟨rfl, hb⟩
  go_wp2
  go_ret
  exact ⟨by simp, hb⟩

set_option maxHeartbeats 4000000 in
theorem walk_star01 (a1 : ByteArray) (a2 : ByteArray) (a3 : ByteArray) (a4 : ByteArray) (w : World) (hle : a1.size + a2.size + a3.size + a4.size ≤ 1048576) (s1 : a1.size ≤ 262144) (s2 : a2.size ≤ 262144) (s3 : a3.size ≤ 262144) (s4 : a4.size ≤ 262144) (Ht : Hid (Api.hasAny a1.data.toList (⟨#[42, 41, 91]⟩ : ByteArray).data.toList = false)) (Hn : Hid (Api.hasAny a3.data.toList (⟨#[32, 91, 40]⟩ : ByteArray).data.toList = false)) (hp : ¬ 0 < a2.size) (hc : Lib.index a2.data.toList [41, 32] < 0) (htl : 0 < a4.size) (Hd : Hid (Api.delims.contains (a4[0]'htl) = true)) (Hp : Hid (Api.ParamsFit a2.data.toList)) (Htl : Hid (Api.TailFits a4.data.toList)) (m : Int) (hm : w.cell? ⟨0, 0, none⟩ = some (.int .i64 m)) :
    Calls Try.prog 3 #[.bool true, .string a1, .string a2, .string a3, .string a4] w fun e w' => e = .returned (.bool true) ∧ Below w.heap.size w w' := by
  have Hc : Hid _ := hc
  go_enter Try.func3, Try.ntmps3
  go_wp2_with fail
  refine (Api.bytes4_yes true a1 a2 a3 a4 hle w).mono ?_
  rintro e w1 ⟨rfl, hw1⟩
  subst hw1
  go_wp2_with fail
  refine (Api.hasAnyOf_go a1 ⟨#[42, 41, 91]⟩ (by omega) (by decide) _).mono ?_
  rintro e w2 ⟨rfl, hw2⟩
  subst hw2
  rw [Ht.out]
  go_wp2_with fail
  refine (Api.hasAnyOf_go a3 ⟨#[32, 91, 40]⟩ (by omega) (by decide) _).mono ?_
  rintro e w3 ⟨rfl, hw3⟩
  subst hw3
  rw [Hn.out]
  go_wp2_with fail
  refine (Api.close_go a2 (by omega) _).mono ?_
  rintro e w4 ⟨rfl, hw4⟩
  subst hw4
  go_wp2_with fail
  refine (Api.isDelim_go _ _).mono ?_
  rintro e w5 ⟨rfl, hw5⟩
  subst hw5
  rw [Hd.out]
  go_wp2_with fail
  refine (Api.exported_of _ (a1 ++ ⟨#[46]⟩ ++ a3) _ (Api.method_star a1 a2 a3 a4 hle Ht Hp Hc Hn Htl m _ hm)).mono ?_
  rintro e w6 ⟨rfl, hb⟩
  go_wp2
  go_ret
  exact ⟨by simp, hb⟩

set_option maxHeartbeats 4000000 in
theorem walk_close1 (a0 : Bool) (a1 : ByteArray) (a2 : ByteArray) (a3 : ByteArray) (a4 : ByteArray) (w : World) (hle : a1.size + a2.size + a3.size + a4.size ≤ 1048576) (s1 : a1.size ≤ 262144) (s2 : a2.size ≤ 262144) (s3 : a3.size ≤ 262144) (s4 : a4.size ≤ 262144) (Ht : Hid (Api.hasAny a1.data.toList (⟨#[42, 41, 91]⟩ : ByteArray).data.toList = false)) (Hn : Hid (Api.hasAny a3.data.toList (⟨#[32, 91, 40]⟩ : ByteArray).data.toList = false)) (hp : 0 < a2.size) (hp1 : ∀ h : 0 < a2.size, ((((a2[0]'h).toNat : Nat) : Int) != 91) = false) (hc : (0 : Int) ≤ Lib.index a2.data.toList [41, 32]) :
    Calls Try.prog 3 #[.bool a0, .string a1, .string a2, .string a3, .string a4] w fun e w' => e = .returned (.bool true) ∧ Below w.heap.size w w' := by
  go_enter Try.func3, Try.ntmps3
  go_wp2_with fail
  refine (Api.bytes4_yes a0 a1 a2 a3 a4 hle w).mono ?_
  rintro e w1 ⟨rfl, hw1⟩
  subst hw1
  go_wp2_with fail
  refine (Api.hasAnyOf_go a1 ⟨#[42, 41, 91]⟩ (by omega) (by decide) _).mono ?_
  rintro e w2 ⟨rfl, hw2⟩
  subst hw2
  rw [Ht.out]
  go_wp2_with fail
  refine (Api.hasAnyOf_go a3 ⟨#[32, 91, 40]⟩ (by omega) (by decide) _).mono ?_
  rintro e w3 ⟨rfl, hw3⟩
  subst hw3
  rw [Hn.out]
  go_wp2_with fail
  refine (Api.close_go a2 (by omega) _).mono ?_
  rintro e w4 ⟨rfl, hw4⟩
  subst hw4
  go_wp2
  go_ret
  exact ⟨rfl, Below.refl _ _⟩

set_option maxHeartbeats 4000000 in
theorem walk_tail1 (a0 : Bool) (a1 : ByteArray) (a2 : ByteArray) (a3 : ByteArray) (a4 : ByteArray) (w : World) (hle : a1.size + a2.size + a3.size + a4.size ≤ 1048576) (s1 : a1.size ≤ 262144) (s2 : a2.size ≤ 262144) (s3 : a3.size ≤ 262144) (s4 : a4.size ≤ 262144) (Ht : Hid (Api.hasAny a1.data.toList (⟨#[42, 41, 91]⟩ : ByteArray).data.toList = false)) (Hn : Hid (Api.hasAny a3.data.toList (⟨#[32, 91, 40]⟩ : ByteArray).data.toList = false)) (hp : 0 < a2.size) (hp1 : ∀ h : 0 < a2.size, ((((a2[0]'h).toNat : Nat) : Int) != 91) = false) (hc : Lib.index a2.data.toList [41, 32] < 0) (htl : 0 < a4.size) (Hd : Hid (Api.delims.contains (a4[0]'htl) = false)) :
    Calls Try.prog 3 #[.bool a0, .string a1, .string a2, .string a3, .string a4] w fun e w' => e = .returned (.bool true) ∧ Below w.heap.size w w' := by
  go_enter Try.func3, Try.ntmps3
  go_wp2_with fail
  refine (Api.bytes4_yes a0 a1 a2 a3 a4 hle w).mono ?_
  rintro e w1 ⟨rfl, hw1⟩
  subst hw1
  go_wp2_with fail
  refine (Api.hasAnyOf_go a1 ⟨#[42, 41, 91]⟩ (by omega) (by decide) _).mono ?_
  rintro e w2 ⟨rfl, hw2⟩
  subst hw2
  rw [Ht.out]
  go_wp2_with fail
  refine (Api.hasAnyOf_go a3 ⟨#[32, 91, 40]⟩ (by omega) (by decide) _).mono ?_
  rintro e w3 ⟨rfl, hw3⟩
  subst hw3
  rw [Hn.out]
  go_wp2_with fail
  refine (Api.close_go a2 (by omega) _).mono ?_
  rintro e w4 ⟨rfl, hw4⟩
  subst hw4
  go_wp2_with fail
  refine (Api.isDelim_go _ _).mono ?_
  rintro e w5 ⟨rfl, hw5⟩
  subst hw5
  rw [Hd.out]
  go_wp2
  go_ret
  exact ⟨rfl, Below.refl _ _⟩

set_option maxHeartbeats 4000000 in
theorem walk_plain10 (a1 : ByteArray) (a2 : ByteArray) (a3 : ByteArray) (a4 : ByteArray) (w : World) (hle : a1.size + a2.size + a3.size + a4.size ≤ 1048576) (s1 : a1.size ≤ 262144) (s2 : a2.size ≤ 262144) (s3 : a3.size ≤ 262144) (s4 : a4.size ≤ 262144) (Ht : Hid (Api.hasAny a1.data.toList (⟨#[42, 41, 91]⟩ : ByteArray).data.toList = false)) (Hn : Hid (Api.hasAny a3.data.toList (⟨#[32, 91, 40]⟩ : ByteArray).data.toList = false)) (hp : 0 < a2.size) (hp1 : ∀ h : 0 < a2.size, ((((a2[0]'h).toNat : Nat) : Int) != 91) = false) (hc : Lib.index a2.data.toList [41, 32] < 0) (htl : ¬ 0 < a4.size) (Hp : Hid (Api.ParamsFit a2.data.toList)) (Htl : Hid (Api.TailFits a4.data.toList)) (m : Int) (hm : w.cell? ⟨0, 0, none⟩ = some (.int .i64 m)) :
    Calls Try.prog 3 #[.bool false, .string a1, .string a2, .string a3, .string a4] w fun e w' => e = .returned (.bool true) ∧ Below w.heap.size w w' := by
  have Hc : Hid _ := hc
  go_enter Try.func3, Try.ntmps3
  go_wp2_with fail
  refine (Api.bytes4_yes false a1 a2 a3 a4 hle w).mono ?_
  rintro e w1 ⟨rfl, hw1⟩
  subst hw1
  go_wp2_with fail
  refine (Api.hasAnyOf_go a1 ⟨#[42, 41, 91]⟩ (by omega) (by decide) _).mono ?_
  rintro e w2 ⟨rfl, hw2⟩
  subst hw2
  rw [Ht.out]
  go_wp2_with fail
  refine (Api.hasAnyOf_go a3 ⟨#[32, 91, 40]⟩ (by omega) (by decide) _).mono ?_
  rintro e w3 ⟨rfl, hw3⟩
  subst hw3
  rw [Hn.out]
  go_wp2_with fail
  refine (Api.close_go a2 (by omega) _).mono ?_
  rintro e w4 ⟨rfl, hw4⟩
  subst hw4
  go_wp2_with fail
  refine (Api.exported_of _ (a1 ++ ⟨#[46]⟩ ++ a3) _ (Api.method_plain a1 a2 a3 a4 hle Ht Hp Hc Hn Htl m _ hm)).mono ?_
  rintro e w6 ⟨rfl, hb⟩
  go_wp2
  go_ret
  exact ⟨by simp, hb⟩

set_option maxHeartbeats 4000000 in
theorem walk_plain11 (a1 : ByteArray) (a2 : ByteArray) (a3 : ByteArray) (a4 : ByteArray) (w : World) (hle : a1.size + a2.size + a3.size + a4.size ≤ 1048576) (s1 : a1.size ≤ 262144) (s2 : a2.size ≤ 262144) (s3 : a3.size ≤ 262144) (s4 : a4.size ≤ 262144) (Ht : Hid (Api.hasAny a1.data.toList (⟨#[42, 41, 91]⟩ : ByteArray).data.toList = false)) (Hn : Hid (Api.hasAny a3.data.toList (⟨#[32, 91, 40]⟩ : ByteArray).data.toList = false)) (hp : 0 < a2.size) (hp1 : ∀ h : 0 < a2.size, ((((a2[0]'h).toNat : Nat) : Int) != 91) = false) (hc : Lib.index a2.data.toList [41, 32] < 0) (htl : 0 < a4.size) (Hd : Hid (Api.delims.contains (a4[0]'htl) = true)) (Hp : Hid (Api.ParamsFit a2.data.toList)) (Htl : Hid (Api.TailFits a4.data.toList)) (m : Int) (hm : w.cell? ⟨0, 0, none⟩ = some (.int .i64 m)) :
    Calls Try.prog 3 #[.bool false, .string a1, .string a2, .string a3, .string a4] w fun e w' => e = .returned (.bool true) ∧ Below w.heap.size w w' := by
  have Hc : Hid _ := hc
  go_enter Try.func3, Try.ntmps3
  go_wp2_with fail
  refine (Api.bytes4_yes false a1 a2 a3 a4 hle w).mono ?_
  rintro e w1 ⟨rfl, hw1⟩
  subst hw1
  go_wp2_with fail
  refine (Api.hasAnyOf_go a1 ⟨#[42, 41, 91]⟩ (by omega) (by decide) _).mono ?_
  rintro e w2 ⟨rfl, hw2⟩
  subst hw2
  rw [Ht.out]
  go_wp2_with fail
  refine (Api.hasAnyOf_go a3 ⟨#[32, 91, 40]⟩ (by omega) (by decide) _).mono ?_
  rintro e w3 ⟨rfl, hw3⟩
  subst hw3
  rw [Hn.out]
  go_wp2_with fail
  refine (Api.close_go a2 (by omega) _).mono ?_
  rintro e w4 ⟨rfl, hw4⟩
  subst hw4
  go_wp2_with fail
  refine (Api.isDelim_go _ _).mono ?_
  rintro e w5 ⟨rfl, hw5⟩
  subst hw5
  rw [Hd.out]
  go_wp2_with fail
  refine (Api.exported_of _ (a1 ++ ⟨#[46]⟩ ++ a3) _ (Api.method_plain a1 a2 a3 a4 hle Ht Hp Hc Hn Htl m _ hm)).mono ?_
  rintro e w6 ⟨rfl, hb⟩
  go_wp2
  go_ret
  exact ⟨by simp, hb⟩

set_option maxHeartbeats 4000000 in
theorem walk_star10 (a1 : ByteArray) (a2 : ByteArray) (a3 : ByteArray) (a4 : ByteArray) (w : World) (hle : a1.size + a2.size + a3.size + a4.size ≤ 1048576) (s1 : a1.size ≤ 262144) (s2 : a2.size ≤ 262144) (s3 : a3.size ≤ 262144) (s4 : a4.size ≤ 262144) (Ht : Hid (Api.hasAny a1.data.toList (⟨#[42, 41, 91]⟩ : ByteArray).data.toList = false)) (Hn : Hid (Api.hasAny a3.data.toList (⟨#[32, 91, 40]⟩ : ByteArray).data.toList = false)) (hp : 0 < a2.size) (hp1 : ∀ h : 0 < a2.size, ((((a2[0]'h).toNat : Nat) : Int) != 91) = false) (hc : Lib.index a2.data.toList [41, 32] < 0) (htl : ¬ 0 < a4.size) (Hp : Hid (Api.ParamsFit a2.data.toList)) (Htl : Hid (Api.TailFits a4.data.toList)) (m : Int) (hm : w.cell? ⟨0, 0, none⟩ = some (.int .i64 m)) :
    Calls Try.prog 3 #[.bool true, .string a1, .string a2, .string a3, .string a4] w fun e w' => e = .returned (.bool true) ∧ Below w.heap.size w w' := by
  have Hc : Hid _ := hc
  go_enter Try.func3, Try.ntmps3
  go_wp2_with fail
  refine (Api.bytes4_yes true a1 a2 a3 a4 hle w).mono ?_
  rintro e w1 ⟨rfl, hw1⟩
  subst hw1
  go_wp2_with fail
  refine (Api.hasAnyOf_go a1 ⟨#[42, 41, 91]⟩ (by omega) (by decide) _).mono ?_
  rintro e w2 ⟨rfl, hw2⟩
  subst hw2
  rw [Ht.out]
  go_wp2_with fail
  refine (Api.hasAnyOf_go a3 ⟨#[32, 91, 40]⟩ (by omega) (by decide) _).mono ?_
  rintro e w3 ⟨rfl, hw3⟩
  subst hw3
  rw [Hn.out]
  go_wp2_with fail
  refine (Api.close_go a2 (by omega) _).mono ?_
  rintro e w4 ⟨rfl, hw4⟩
  subst hw4
  go_wp2_with fail
  refine (Api.exported_of _ (a1 ++ ⟨#[46]⟩ ++ a3) _ (Api.method_star a1 a2 a3 a4 hle Ht Hp Hc Hn Htl m _ hm)).mono ?_
  rintro e w6 ⟨rfl, hb⟩
  go_wp2
  go_ret
  exact ⟨by simp, hb⟩

set_option maxHeartbeats 4000000 in
theorem walk_star11 (a1 : ByteArray) (a2 : ByteArray) (a3 : ByteArray) (a4 : ByteArray) (w : World) (hle : a1.size + a2.size + a3.size + a4.size ≤ 1048576) (s1 : a1.size ≤ 262144) (s2 : a2.size ≤ 262144) (s3 : a3.size ≤ 262144) (s4 : a4.size ≤ 262144) (Ht : Hid (Api.hasAny a1.data.toList (⟨#[42, 41, 91]⟩ : ByteArray).data.toList = false)) (Hn : Hid (Api.hasAny a3.data.toList (⟨#[32, 91, 40]⟩ : ByteArray).data.toList = false)) (hp : 0 < a2.size) (hp1 : ∀ h : 0 < a2.size, ((((a2[0]'h).toNat : Nat) : Int) != 91) = false) (hc : Lib.index a2.data.toList [41, 32] < 0) (htl : 0 < a4.size) (Hd : Hid (Api.delims.contains (a4[0]'htl) = true)) (Hp : Hid (Api.ParamsFit a2.data.toList)) (Htl : Hid (Api.TailFits a4.data.toList)) (m : Int) (hm : w.cell? ⟨0, 0, none⟩ = some (.int .i64 m)) :
    Calls Try.prog 3 #[.bool true, .string a1, .string a2, .string a3, .string a4] w fun e w' => e = .returned (.bool true) ∧ Below w.heap.size w w' := by
  have Hc : Hid _ := hc
  go_enter Try.func3, Try.ntmps3
  go_wp2_with fail
  refine (Api.bytes4_yes true a1 a2 a3 a4 hle w).mono ?_
  rintro e w1 ⟨rfl, hw1⟩
  subst hw1
  go_wp2_with fail
  refine (Api.hasAnyOf_go a1 ⟨#[42, 41, 91]⟩ (by omega) (by decide) _).mono ?_
  rintro e w2 ⟨rfl, hw2⟩
  subst hw2
  rw [Ht.out]
  go_wp2_with fail
  refine (Api.hasAnyOf_go a3 ⟨#[32, 91, 40]⟩ (by omega) (by decide) _).mono ?_
  rintro e w3 ⟨rfl, hw3⟩
  subst hw3
  rw [Hn.out]
  go_wp2_with fail
  refine (Api.close_go a2 (by omega) _).mono ?_
  rintro e w4 ⟨rfl, hw4⟩
  subst hw4
  go_wp2_with fail
  refine (Api.isDelim_go _ _).mono ?_
  rintro e w5 ⟨rfl, hw5⟩
  subst hw5
  rw [Hd.out]
  go_wp2_with fail
  refine (Api.exported_of _ (a1 ++ ⟨#[46]⟩ ++ a3) _ (Api.method_star a1 a2 a3 a4 hle Ht Hp Hc Hn Htl m _ hm)).mono ?_
  rintro e w6 ⟨rfl, hb⟩
  go_wp2
  go_ret
  exact ⟨by simp, hb⟩

theorem walk (a0 : Bool) (a1 : ByteArray) (a2 : ByteArray) (a3 : ByteArray) (a4 : ByteArray) (w1 : a1.size ≤ maxLen) (w2 : a2.size ≤ maxLen) (w3 : a3.size ≤ maxLen) (w4 : a4.size ≤ maxLen) (m : Int) (w : World) (hm : w.cell? ⟨0, 0, none⟩ = some (.int .i64 m)) :
    Calls Try.prog 3 #[.bool a0, .string a1, .string a2, .string a3, .string a4] w fun e w' => e = .returned (.bool true) ∧ Below w.heap.size w w' := by
  by_cases hbig : 1048576 < a1.size + a2.size + a3.size + a4.size
  · exact walk_big a0 a1 a2 a3 a4 w1 w2 w3 w4 w hbig
  have hle : a1.size + a2.size + a3.size + a4.size ≤ 1048576 := by omega
  by_cases hl : a1.size ≤ 262144 ∧ a2.size ≤ 262144 ∧ a3.size ≤ 262144 ∧ a4.size ≤ 262144
  rotate_left
  · exact walk_long a0 a1 a2 a3 a4 w hle hl
  obtain ⟨s1, s2, s3, s4⟩ := hl
  cases ht : Api.hasAny a1.data.toList (⟨#[42, 41, 91]⟩ : ByteArray).data.toList
  rotate_left
  · exact walk_typ a0 a1 a2 a3 a4 w hle s1 s2 s3 s4 ht
  cases hn : Api.hasAny a3.data.toList (⟨#[32, 91, 40]⟩ : ByteArray).data.toList
  rotate_left
  · exact walk_name a0 a1 a2 a3 a4 w hle s1 s2 s3 s4 ht hn
  by_cases hp : 0 < a2.size
  · by_cases hp1 : (a2[0]'hp) = 91
    · have hp2 : ∀ h : 0 < a2.size, ((((a2[0]'h).toNat : Nat) : Int) != 91) = false := fun h => by rw [hp1]; rfl
      have Hp : Hid _ := Api.paramsFit_cons a2 hp hp1
      by_cases hc : (0 : Int) ≤ Lib.index a2.data.toList [41, 32]
      · exact walk_close1 a0 a1 a2 a3 a4 w hle s1 s2 s3 s4 ht hn hp hp2 hc
      have hc' : Lib.index a2.data.toList [41, 32] < 0 := by omega
      by_cases htl : 0 < a4.size
      · cases hd : Api.delims.contains (a4[0]'htl)
        · exact walk_tail1 a0 a1 a2 a3 a4 w hle s1 s2 s3 s4 ht hn hp hp2 hc' htl hd
        · cases a0
          · exact walk_plain11 a1 a2 a3 a4 w hle s1 s2 s3 s4 ht hn hp hp2 hc' htl hd Hp (Api.tailFits_cons a4 htl hd) m hm
          · exact walk_star11 a1 a2 a3 a4 w hle s1 s2 s3 s4 ht hn hp hp2 hc' htl hd Hp (Api.tailFits_cons a4 htl hd) m hm
      · cases a0
        · exact walk_plain10 a1 a2 a3 a4 w hle s1 s2 s3 s4 ht hn hp hp2 hc' htl Hp (Api.tailFits_nil a4 htl) m hm
        · exact walk_star10 a1 a2 a3 a4 w hle s1 s2 s3 s4 ht hn hp hp2 hc' htl Hp (Api.tailFits_nil a4 htl) m hm
    · refine walk_params a0 a1 a2 a3 a4 w hle s1 s2 s3 s4 ht hn hp fun h => ?_
      rw [bne_iff_ne]
      exact fun e => hp1 (Api.byte_of_int _ 91 91 rfl e)
  · have Hp : Hid _ := Api.paramsFit_nil a2 hp
    by_cases hc : (0 : Int) ≤ Lib.index a2.data.toList [41, 32]
    · exact walk_close0 a0 a1 a2 a3 a4 w hle s1 s2 s3 s4 ht hn hp hc
    have hc' : Lib.index a2.data.toList [41, 32] < 0 := by omega
    by_cases htl : 0 < a4.size
    · cases hd : Api.delims.contains (a4[0]'htl)
      · exact walk_tail0 a0 a1 a2 a3 a4 w hle s1 s2 s3 s4 ht hn hp hc' htl hd
      · cases a0
        · exact walk_plain01 a1 a2 a3 a4 w hle s1 s2 s3 s4 ht hn hp hc' htl hd Hp (Api.tailFits_cons a4 htl hd) m hm
        · exact walk_star01 a1 a2 a3 a4 w hle s1 s2 s3 s4 ht hn hp hc' htl hd Hp (Api.tailFits_cons a4 htl hd) m hm
    · cases a0
      · exact walk_plain00 a1 a2 a3 a4 w hle s1 s2 s3 s4 ht hn hp hc' htl Hp (Api.tailFits_nil a4 htl) m hm
      · exact walk_star00 a1 a2 a3 a4 w hle s1 s2 s3 s4 ht hn hp hc' htl Hp (Api.tailFits_nil a4 htl) m hm

/-! ### THE ROW's STEP: WRITTEN OUT: LEAVE IT -/
set_option maxRecDepth 100000 in
theorem lifted (os : Os) (started : os.Started) (H : Type) (enc : TypeId × Value → H) :
    ReturnsInHanded {} Try.checked os 3 .any (Rows.fnIdentifierOfMethodLineSpec.pre6 enc Try.prog Try.f3 Rows.fnIdentifierOfMethodLineRow.domain false) (Rows.fnIdentifierOfMethodLineSpec.post enc Try.prog Try.f3 false true false false) := by
  refine returnsInHanded_of_change_shaped (C := Try.checked) own started (by kernel_rfl) Try.func3
    (ChangeSpec.witness6 (enc := enc) (C := Try.checked) false ⟨#[], #[.bool false, .string ByteArray.empty, .string ByteArray.empty, .string ByteArray.empty, .string ByteArray.empty], []⟩ 8 (by kernel_rfl) (by kernel_rfl) (by kernel_rfl) (by kernel_rfl)) ?_
  intro W base args ds gs before hval0 hW hcnd _ hsh _
  have hval : ∀ (j : Nat) t v, Try.f3.params[j]? = some t → args[j]? = some v → Value.okWide Try.prog W .any base t v := hval0
  have hW' := hW
  obtain ⟨p, q, hA0, hV, rfl, hfz, hnd⟩ := hW
  have hA : DataW.TrodAll enc Try.prog W 0 (fun _ => true) true Try.f3.params.toList args.toList ds p := hA0
  rw [Try.params3] at hA hval
  obtain ⟨v0, vs0, d0, ds0, p0, q0, hargs, rfl, rfl, h0, r0⟩ := trodAll_cons hA
  obtain ⟨v1, vs1, d1, ds1, p1, q1, rfl, rfl, rfl, h1, r1⟩ := trodAll_cons r0
  obtain ⟨v2, vs2, d2, ds2, p2, q2, rfl, rfl, rfl, h2, r2⟩ := trodAll_cons r1
  obtain ⟨v3, vs3, d3, ds3, p3, q3, rfl, rfl, rfl, h3, r3⟩ := trodAll_cons r2
  obtain ⟨v4, vs4, d4, ds4, p4, q4, rfl, rfl, rfl, h4, r4⟩ := trodAll_cons r3
  obtain ⟨rfl, rfl, rfl⟩ := trodAll_nil r4
  obtain rfl : args = #[v0, v1, v2, v3, v4] := by cases args; simp_all
  obtain ⟨rfl, rfl⟩ := trodVars_none hV
  obtain ⟨a0, rfl, rfl, rfl⟩ := open_bool Try.underlying4 (hval 0 4 v0 rfl rfl) h0
  obtain ⟨a1, rfl, rfl, rfl, w1⟩ := open_string Try.underlying9 (hval 1 9 v1 rfl rfl) h1
  obtain ⟨a2, rfl, rfl, rfl, w2⟩ := open_string Try.underlying9 (hval 2 9 v2 rfl rfl) h2
  obtain ⟨a3, rfl, rfl, rfl, w3⟩ := open_string Try.underlying9 (hval 3 9 v3 rfl rfl) h3
  obtain ⟨a4, rfl, rfl, rfl, w4⟩ := open_string Try.underlying9 (hval 4 9 v4 rfl rfl) h4
  clear hA0 hval0
  simp only [List.append_nil] at hW'
  obtain ⟨m, hm⟩ := Try.laysM145.s1_3 W hsh
  refine (walk a0 a1 a2 a3 a4 w1 w2 w3 w4 m W hm).mono fun e W' ⟨he, bel⟩ => ?_
  subst he
  exact ⟨_, rfl, _, _, _, [], [], [], hW', (trodAll_cons_mk (shut_bool Try.underlying4 _) trodAll_mk0), (trodAll_cons_mk (shut_bool Try.underlying4 _) (trodAll_cons_mk (shut_string Try.underlying9 w1) (trodAll_cons_mk (shut_string Try.underlying9 w2) (trodAll_cons_mk (shut_string Try.underlying9 w3) (trodAll_cons_mk (shut_string Try.underlying9 w4) trodAll_mk0))))), rfl, bel.frame _, fun h => by cases h⟩

theorem over : Rows.fnIdentifierOfMethodLineRow.holds Try.pinned (OpenSpec.ofChange Rows.fnIdentifierOfMethodLineSpec) :=
  OpenClaim.holds_of_wide 3 Try.f3 rfl rfl rfl rfl rfl rfl rfl ⟨rfl, rfl, rfl, rfl, rfl⟩ rfl rfl rfl rfl rfl (by kernel_rfl) Try.func3 (by kernel_rfl)
    (of_decide_eq_true (by kernel_rfl)) (by unfold Func.isWrapper; first | (rw [if_pos (by decide +kernel)]; kernel_rfl) | (rw [if_neg (by decide +kernel)]; exact ⟨rfl, rfl⟩))
    (fun os started H enc _ => lifted os started H enc)

/-- ████ THE STATEMENT ████ -/
theorem proved : Rows.FnIdentifierOfMethodLineSaid :=
  over
end Go.Proofs.Qxb6602240a.fnIdentifierOfMethodLine
