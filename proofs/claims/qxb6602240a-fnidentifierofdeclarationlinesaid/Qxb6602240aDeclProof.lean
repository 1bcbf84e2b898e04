/-
  A proof of Rows.FnIdentifierOfDeclarationLineSaid: the frame is the kit's template for this function; the walk is ours.
-/
import Derived.Test.Qxb6602240aRows
import Derived.WalkKit
import Derived.ProofKit
import Derived.OpenShut
import Derived.ShutString
import Derived.Below
import Derived.HandedShaped
import Derived.Test.Qxb6602240aIdent
namespace Go.Proofs.Qxb6602240a.fnIdentifierOfDeclarationLine
open Go.ChangeShapes Go.WideShapes Go.ChangeAt Go.RowKit
open Go.ChangeMaps (open_string shut_string)
set_option linter.unusedVariables false      -- a walk need not use every 'w<i>' (that an integer argument fits its kind)

theorem own : ownKnob Try.prog.godebug = none := by kernel_rfl

/-! ### STEP 1: THE WALK: the Go text returns true. -/
theorem not_mem_of_index {l : List UInt8} {c : UInt8} (h : ¬ ((0 : Int) ≤ Lib.indexByte l c)) : c ∉ l := by
  have h1 := Lib.contains_iff_indexByte l c
  rw [decide_eq_false h] at h1
  intro hm
  rw [List.contains_iff_mem.2 hm] at h1
  cases h1

/-- What the tail is: nothing, or it opens with a delimiter. -/
def TailOk (t : List UInt8) : Prop := t = [] ∨ ∃ b u, t = b :: u ∧ Api.delims.contains b = true

theorem tailOk_nil (s : ByteArray) (h : ¬ 0 < s.size) : TailOk s.data.toList := by
  left
  apply List.length_eq_zero_iff.1
  rw [← Lib.size_eq]
  omega

theorem tailOk_cons (s : ByteArray) (h : 0 < s.size) (hd : Api.delims.contains (s[0]'h) = true) : TailOk s.data.toList := by
  have h0 := Lib.data_getElem? s 0 h
  cases hl : s.data.toList with
  | nil => rw [hl] at h0; simp at h0
  | cons b u =>
    rw [hl] at h0
    simp at h0
    exact .inr ⟨b, u, rfl, by rw [h0]; exact hd⟩

/-- A name without a delimiter, and what the law shuts out: the rest does not open with a parenthesis behind func. -/
theorem not_open (a0 a1 a2 : ByteArray) (hh : Api.hasAny a1.data.toList Api.delims = false)
    (hq : ¬ (a0.data.toList = [102, 117, 110, 99] ∧ a1.size = 0 ∧ ∃ h : 0 < a2.size, (a2[0]'h) = 40)) :
    a0.data.toList = [102, 117, 110, 99] → Lib.hasPrefix (a1.data.toList ++ a2.data.toList) [40] = false := by
  intro hk
  rw [Bool.eq_false_iff]
  intro hp
  unfold Lib.hasPrefix at hp
  cases h1 : a1.data.toList with
  | cons b u =>
    rw [h1] at hp hh
    have hb : b = 40 := by simp [List.isPrefixOf] at hp; exact hp.symm
    rw [hb] at hh
    simp [Api.hasAny, Api.delims] at hh
  | nil =>
    rw [h1, List.nil_append] at hp
    have hz : a1.size = 0 := by rw [Lib.size_eq, h1]; rfl
    refine hq ⟨hk, hz, ?_⟩
    cases h2 : a2.data.toList with
    | nil => rw [h2] at hp; simp [List.isPrefixOf] at hp
    | cons b u =>
      rw [h2] at hp
      have hb : b = 40 := by simp [List.isPrefixOf] at hp; exact hp.symm
      have hsz : 0 < a2.size := by rw [Lib.size_eq, h2]; simp
      refine ⟨hsz, ?_⟩
      have h0 := Lib.data_getElem? a2 0 hsz
      rw [h2] at h0
      simp at h0
      rw [← h0, hb]

theorem plain_line (a0 a1 a2 : ByteArray) (hle : a0.size + a1.size + a2.size ≤ 1048576) (hz : Hid (¬ ((0 : Int) ≤ Lib.indexByte a0.data.toList 32))) (hh : Hid (Api.hasAny a1.data.toList Api.delims = false)) (ht : Hid (TailOk a2.data.toList))
    (hnot : Hid (a0.data.toList = [102, 117, 110, 99] → Lib.hasPrefix (a1.data.toList ++ a2.data.toList) [40] = false)) (m : Int) (w : World) (hm : w.cell? ⟨0, 0, none⟩ = some (.int .i64 m)) :
    Calls Try.prog 19 #[.string (a0 ++ ⟨#[32]⟩ ++ a1 ++ a2)] w fun e w' => e = .returned (.string a1) ∧ Below w.heap.size w w' := by
  have e1 : (a1 ++ a2).data.toList = a1.data.toList ++ a2.data.toList := by simp
  have e2 : (a0 ++ ⟨#[32]⟩ ++ a1 ++ a2 : ByteArray).data.toList = a0.data.toList ++ 32 :: (a1 ++ a2).data.toList := by simp
  have e3 : (a0 ++ ⟨#[32]⟩ ++ a1 ++ a2 : ByteArray).size < 4294967281 := by
    rw [Lib.size_eq, e2, e1]
    simp only [List.length_append, List.length_cons, ← Lib.size_eq]
    omega
  have h := Api.ident_other (a0 ++ ⟨#[32]⟩ ++ a1 ++ a2) a0 (a1 ++ a2) e2 (not_mem_of_index hz.out) e3 (by rw [e1]; exact hnot.out) m w hm
  rw [e1, Api.nameOf_append _ _ hh.out ht.out] at h
  exact h

set_option maxHeartbeats 4000000 in
theorem walk (a0 : ByteArray) (a1 : ByteArray) (a2 : ByteArray) (w0 : a0.size ≤ maxLen) (w1 : a1.size ≤ maxLen) (w2 : a2.size ≤ maxLen) (m : Int) (w : World) (hm : w.cell? ⟨0, 0, none⟩ = some (.int .i64 m)) :
    Calls Try.prog 4 #[.string a0, .string a1, .string a2] w fun e w' => e = .returned (.bool true) ∧ Below w.heap.size w w' := by
  by_cases hbig : 1048576 < a0.size + a1.size + a2.size
  · go_enter Try.func4, Try.ntmps4
    go_wp2_with fail
    refine (Api.bytes3_no a0 a1 a2 w0 w1 w2 hbig w).mono ?_
    rintro e w' ⟨rfl, hw'⟩
    subst hw'
    go_wp2
    go_ret
    exact ⟨rfl, Below.refl _ _⟩
  have hle : a0.size + a1.size + a2.size ≤ 1048576 := by omega
  by_cases h0 : 262144 < a0.size
  · go_enter Try.func4, Try.ntmps4
    go_wp2_with fail
    refine (Api.bytes3_yes a0 a1 a2 hle w).mono ?_
    rintro e w1 ⟨rfl, hw1⟩
    subst hw1
    go_wp2
    go_ret
    exact ⟨rfl, Below.refl _ _⟩
  by_cases h1 : 262144 < a1.size
  · go_enter Try.func4, Try.ntmps4
    go_wp2_with fail
    refine (Api.bytes3_yes a0 a1 a2 hle w).mono ?_
    rintro e w1 ⟨rfl, hw1⟩
    subst hw1
    go_wp2
    go_ret
    exact ⟨rfl, Below.refl _ _⟩
  by_cases h2 : 262144 < a2.size
  · go_enter Try.func4, Try.ntmps4
    go_wp2_with fail
    refine (Api.bytes3_yes a0 a1 a2 hle w).mono ?_
    rintro e w1 ⟨rfl, hw1⟩
    subst hw1
    go_wp2
    go_ret
    exact ⟨rfl, Below.refl _ _⟩
  by_cases hz : (0 : Int) ≤ Lib.indexByte a0.data.toList 32
  · go_enter Try.func4, Try.ntmps4
    go_wp2_with fail
    refine (Api.bytes3_yes a0 a1 a2 hle w).mono ?_
    rintro e w1 ⟨rfl, hw1⟩
    subst hw1
    go_wp2_with fail
    refine (Api.indexByte_go a0 32 (by omega) _).mono ?_
    rintro e w2 ⟨rfl, hw2⟩
    subst hw2
    go_wp2
    go_ret
    exact ⟨rfl, Below.refl _ _⟩
  have Hz : Hid _ := hz
  cases hh : Api.hasAny a1.data.toList Api.delims
  rotate_left
  · have Hh : Hid (Api.hasAny a1.data.toList (⟨#[32, 91, 40]⟩ : ByteArray).data.toList = true) := hh
    clear hh
    go_enter Try.func4, Try.ntmps4
    go_wp2_with fail
    refine (Api.bytes3_yes a0 a1 a2 hle w).mono ?_
    rintro e w1 ⟨rfl, hw1⟩
    subst hw1
    go_wp2_with fail
    refine (Api.indexByte_go a0 32 (by omega) _).mono ?_
    rintro e w2 ⟨rfl, hw2⟩
    subst hw2
    go_wp2_with fail
    refine (Api.hasAnyOf_go a1 ⟨#[32, 91, 40]⟩ (by omega) (by decide) _).mono ?_
    rintro e w3 ⟨rfl, hw3⟩
    subst hw3
    rw [Hh.out]
    go_wp2
    go_ret
    exact ⟨rfl, Below.refl _ _⟩
  by_cases hq : a0.data.toList = [102, 117, 110, 99] ∧ a1.size = 0 ∧ ∃ h : 0 < a2.size, (a2[0]'h) = 40
  · obtain ⟨q1, q2, q3, q4⟩ := hq
    have k1 : a0.toList = [102, 117, 110, 99] := by rw [Lib.toList_data]; exact q1
    have k2 : ((a1.size : Int) == 0) = true := by rw [q2]; rfl
    have k4 : ∀ h : 0 < a2.size, ((((a2[0]'h).toNat : Nat) : Int) == 40) = true := fun h => by rw [q4]; rfl
    have Hh : Hid (Api.hasAny a1.data.toList (⟨#[32, 91, 40]⟩ : ByteArray).data.toList = false) := hh
    have Hd : Hid (Api.delims.contains (a2[0]'q3) = true) := by show _ = _; rw [q4]; decide
    clear hh q1 q2 q4
    go_enter Try.func4, Try.ntmps4
    go_wp2_with fail
    refine (Api.bytes3_yes a0 a1 a2 hle w).mono ?_
    rintro e w1 ⟨rfl, hw1⟩
    subst hw1
    go_wp2_with fail
    refine (Api.indexByte_go a0 32 (by omega) _).mono ?_
    rintro e w2 ⟨rfl, hw2⟩
    subst hw2
    go_wp2_with fail
    refine (Api.hasAnyOf_go a1 ⟨#[32, 91, 40]⟩ (by omega) (by decide) _).mono ?_
    rintro e w3 ⟨rfl, hw3⟩
    subst hw3
    rw [Hh.out]
    go_wp2_with fail
    refine (Api.isDelim_go _ _).mono ?_
    rintro e w4 ⟨rfl, hw4⟩
    subst hw4
    rw [Hd.out]
    go_wp2
    go_ret
    exact ⟨rfl, Below.refl _ _⟩
  have Hnot : Hid _ := not_open a0 a1 a2 hh hq
  have Hh : Hid (Api.hasAny a1.data.toList (⟨#[32, 91, 40]⟩ : ByteArray).data.toList = false) := hh
  clear hh hq
  obtain ⟨bn, hbn⟩ : ∃ bn : Bool, ((a1.size : Int) == 0) = bn := ⟨_, rfl⟩
  by_cases htl : 0 < a2.size
  · cases hd : Api.delims.contains (a2[0]'htl)
    · have Hd : Hid _ := hd
      clear hd
      go_enter Try.func4, Try.ntmps4
      go_wp2_with fail
      refine (Api.bytes3_yes a0 a1 a2 hle w).mono ?_
      rintro e w1 ⟨rfl, hw1⟩
      subst hw1
      go_wp2_with fail
      refine (Api.indexByte_go a0 32 (by omega) _).mono ?_
      rintro e w2 ⟨rfl, hw2⟩
      subst hw2
      go_wp2_with fail
      refine (Api.hasAnyOf_go a1 ⟨#[32, 91, 40]⟩ (by omega) (by decide) _).mono ?_
      rintro e w3 ⟨rfl, hw3⟩
      subst hw3
      rw [Hh.out]
      go_wp2_with fail
      refine (Api.isDelim_go _ _).mono ?_
      rintro e w4 ⟨rfl, hw4⟩
      subst hw4
      rw [Hd.out]
      go_wp2
      go_ret
      exact ⟨rfl, Below.refl _ _⟩
    · have Ht : Hid _ := tailOk_cons a2 htl hd
      have Hd : Hid _ := hd
      clear hd
      go_enter Try.func4, Try.ntmps4
      go_wp2_with fail
      refine (Api.bytes3_yes a0 a1 a2 hle w).mono ?_
      rintro e w1 ⟨rfl, hw1⟩
      subst hw1
      go_wp2_with fail
      refine (Api.indexByte_go a0 32 (by omega) _).mono ?_
      rintro e w2 ⟨rfl, hw2⟩
      subst hw2
      go_wp2_with fail
      refine (Api.hasAnyOf_go a1 ⟨#[32, 91, 40]⟩ (by omega) (by decide) _).mono ?_
      rintro e w3 ⟨rfl, hw3⟩
      subst hw3
      rw [Hh.out]
      go_wp2_with fail
      refine (Api.isDelim_go _ _).mono ?_
      rintro e w4 ⟨rfl, hw4⟩
      subst hw4
      rw [Hd.out]
      go_wp2_with fail
      all_goals first | (refine (Api.exported_of _ a1 _ (plain_line a0 a1 a2 hle Hz Hh Ht Hnot m _ hm)).mono ?_; rintro e w5 ⟨rfl, hb⟩; go_wp2; go_ret; exact ⟨by simp, hb⟩) | (go_ret; exact ⟨rfl, Below.refl _ _⟩)
  · have Ht : Hid _ := tailOk_nil a2 htl
    go_enter Try.func4, Try.ntmps4
    go_wp2_with fail
    refine (Api.bytes3_yes a0 a1 a2 hle w).mono ?_
    rintro e w1 ⟨rfl, hw1⟩
    subst hw1
    go_wp2_with fail
    refine (Api.indexByte_go a0 32 (by omega) _).mono ?_
    rintro e w2 ⟨rfl, hw2⟩
    subst hw2
    go_wp2_with fail
    refine (Api.hasAnyOf_go a1 ⟨#[32, 91, 40]⟩ (by omega) (by decide) _).mono ?_
    rintro e w3 ⟨rfl, hw3⟩
    subst hw3
    rw [Hh.out]
    go_wp2_with fail
    all_goals first | (refine (Api.exported_of _ a1 _ (plain_line a0 a1 a2 hle Hz Hh Ht Hnot m _ hm)).mono ?_; rintro e w5 ⟨rfl, hb⟩; go_wp2; go_ret; exact ⟨by simp, hb⟩) | (go_ret; exact ⟨rfl, Below.refl _ _⟩)

/-! ### THE ROW's STEP: WRITTEN OUT: LEAVE IT -/
set_option maxRecDepth 100000 in
theorem lifted (os : Os) (started : os.Started) (H : Type) (enc : TypeId × Value → H) :
    ReturnsInHanded {} Try.checked os 4 .any (Rows.fnIdentifierOfDeclarationLineSpec.pre6 enc Try.prog Try.f4 Rows.fnIdentifierOfDeclarationLineRow.domain false) (Rows.fnIdentifierOfDeclarationLineSpec.post enc Try.prog Try.f4 false true false false) := by
  refine returnsInHanded_of_change_shaped (C := Try.checked) own started (by kernel_rfl) Try.func4
    (ChangeSpec.witness6 (enc := enc) (C := Try.checked) false ⟨#[], #[.string ByteArray.empty, .string ByteArray.empty, .string ByteArray.empty], []⟩ 8 (by kernel_rfl) (by kernel_rfl) (by kernel_rfl) (by kernel_rfl)) ?_
  intro W base args ds gs before hval0 hW hcnd _ hsh _
  have hval : ∀ (j : Nat) t v, Try.f4.params[j]? = some t → args[j]? = some v → Value.okWide Try.prog W .any base t v := hval0
  have hW' := hW
  obtain ⟨p, q, hA0, hV, rfl, hfz, hnd⟩ := hW
  have hA : DataW.TrodAll enc Try.prog W 0 (fun _ => true) true Try.f4.params.toList args.toList ds p := hA0
  rw [Try.params4] at hA hval
  obtain ⟨v0, vs0, d0, ds0, p0, q0, hargs, rfl, rfl, h0, r0⟩ := trodAll_cons hA
  obtain ⟨v1, vs1, d1, ds1, p1, q1, rfl, rfl, rfl, h1, r1⟩ := trodAll_cons r0
  obtain ⟨v2, vs2, d2, ds2, p2, q2, rfl, rfl, rfl, h2, r2⟩ := trodAll_cons r1
  obtain ⟨rfl, rfl, rfl⟩ := trodAll_nil r2
  obtain rfl : args = #[v0, v1, v2] := by cases args; simp_all
  obtain ⟨rfl, rfl⟩ := trodVars_none hV
  obtain ⟨a0, rfl, rfl, rfl, w0⟩ := open_string Try.underlying9 (hval 0 9 v0 rfl rfl) h0
  obtain ⟨a1, rfl, rfl, rfl, w1⟩ := open_string Try.underlying9 (hval 1 9 v1 rfl rfl) h1
  obtain ⟨a2, rfl, rfl, rfl, w2⟩ := open_string Try.underlying9 (hval 2 9 v2 rfl rfl) h2
  clear hA0 hval0
  simp only [List.append_nil] at hW'
  obtain ⟨m, hm⟩ := Try.laysM145.s1_3 W hsh
  refine (walk a0 a1 a2 w0 w1 w2 m W hm).mono fun e W' ⟨he, bel⟩ => ?_
  subst he
  exact ⟨_, rfl, _, _, _, [], [], [], hW', (trodAll_cons_mk (shut_bool Try.underlying4 _) trodAll_mk0), (trodAll_cons_mk (shut_string Try.underlying9 w0) (trodAll_cons_mk (shut_string Try.underlying9 w1) (trodAll_cons_mk (shut_string Try.underlying9 w2) trodAll_mk0))), rfl, bel.frame _, fun h => by cases h⟩

theorem over : Rows.fnIdentifierOfDeclarationLineRow.holds Try.pinned (OpenSpec.ofChange Rows.fnIdentifierOfDeclarationLineSpec) :=
  OpenClaim.holds_of_wide 4 Try.f4 rfl rfl rfl rfl rfl rfl rfl ⟨rfl, rfl, rfl, rfl, rfl⟩ rfl rfl rfl rfl rfl (by kernel_rfl) Try.func4 (by kernel_rfl)
    (of_decide_eq_true (by kernel_rfl)) (by unfold Func.isWrapper; first | (rw [if_pos (by decide +kernel)]; kernel_rfl) | (rw [if_neg (by decide +kernel)]; exact ⟨rfl, rfl⟩))
    (fun os started H enc _ => lifted os started H enc)

/-- ████ THE STATEMENT ████ -/
theorem proved : Rows.FnIdentifierOfDeclarationLineSaid :=
  over
end Go.Proofs.Qxb6602240a.fnIdentifierOfDeclarationLine
