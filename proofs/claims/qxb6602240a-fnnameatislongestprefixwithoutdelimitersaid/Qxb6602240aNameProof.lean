/-
  A proof of Rows.FnNameAtIsLongestPrefixWithoutDelimiterSaid: the frame is the kit's template for this function; the walk is ours.
-/
import Derived.Test.Qxb6602240aRows
import Derived.WalkKit
import Derived.ProofKit
import Derived.OpenShut
import Derived.ShutString
import Derived.Below
import Derived.Test.Qxb6602240aSmall
namespace Go.Proofs.Qxb6602240a.fnNameAtIsLongestPrefixWithoutDelimiter
open Go.ChangeShapes Go.WideShapes Go.ChangeAt Go.RowKit
open Go.ChangeMaps (open_string shut_string)
set_option linter.unusedVariables false      -- a walk need not use every 'w<i>' (that an integer argument fits its kind)

theorem own : ownKnob Try.prog.godebug = none := by kernel_rfl

/-! ### STEP 1: THE WALK: the Go text returns true. -/
theorem nameOf_prefix (l : List UInt8) : ∃ r, l = Api.nameOf l ++ r := ⟨l.dropWhile (fun b => !Api.delims.contains b), by unfold Api.nameOf; rw [List.takeWhile_append_dropWhile]⟩

theorem nameOf_free (l : List UInt8) : Api.hasAny (Api.nameOf l) Api.delims = false := by
  unfold Api.hasAny Api.nameOf
  rw [List.any_eq_false]
  intro b hb
  have := List.all_eq_true.1 List.all_takeWhile b hb
  simpa using this

theorem nameOf_next : ∀ (l : List UInt8) (h : (Api.nameOf l).length < l.length), Api.delims.contains (l[(Api.nameOf l).length]'h) = true
  | [], h => absurd h (by simp)
  | b :: l, h => by
    unfold Api.nameOf at *
    cases hb : Api.delims.contains b
    · simp only [List.takeWhile_cons, hb, Bool.not_false, if_true, List.length_cons, List.getElem_cons_succ] at h ⊢
      exact nameOf_next l (by unfold Api.nameOf; omega)
    · simp only [List.takeWhile_cons, hb, Bool.not_true]
      exact hb

theorem name_facts (s R : ByteArray) (hR : R.data.toList = Api.nameOf s.data.toList) :
    R.size ≤ s.size ∧ (s.extract 0 R.size).toList = R.toList ∧ Api.hasAny R.data.toList Api.delims = false ∧ (∀ h : R.size < s.size, Api.delims.contains (s[R.size]'h) = true) := by
  obtain ⟨r, hr⟩ := nameOf_prefix s.data.toList
  have hl : R.size = (Api.nameOf s.data.toList).length := by rw [Lib.size_eq, hR]
  have hs : s.size = (Api.nameOf s.data.toList).length + r.length := by rw [Lib.size_eq, ← List.length_append, ← hr]
  refine ⟨by omega, ?_, by rw [hR]; exact nameOf_free _, ?_⟩
  · rw [Lib.extract_toList, Lib.toList_data, hR, hl, List.drop_zero, Nat.sub_zero]
    exact (congrArg (List.take (Api.nameOf s.data.toList).length) hr).trans (List.take_left' rfl)
  · intro h
    have := nameOf_next s.data.toList (by rw [← Lib.size_eq]; omega)
    have e : s[R.size]'h = s.data.toList[(Api.nameOf s.data.toList).length]'(by rw [← Lib.size_eq]; omega) := by
      have : s[R.size]'h = s.data.toList[R.size]'(by rw [← Lib.size_eq]; omega) := rfl
      rw [this]
      simp only [hl]
    rw [e]
    exact this

theorem walk (a0 : ByteArray) (w0 : a0.size ≤ maxLen) (w : World) :
    Calls Try.prog 6 #[.string a0] w fun e w' => e = .returned (.bool true) ∧ Below w.heap.size w w' := by
  by_cases hbig : 1048576 < a0.size
  · go_enter Try.func6, Try.ntmps6
    go_wp2_with fail
    refine (Api.bytes1_no a0 w0 hbig w).mono ?_
    rintro e w1 ⟨rfl, hw1⟩
    subst hw1
    go_wp2
    go_ret
    exact ⟨rfl, Below.refl _ _⟩
  · have hle : a0.size ≤ 1048576 := by omega
    clear hbig
    obtain ⟨R, hR⟩ : ∃ R : ByteArray, R = ⟨(Api.nameOf a0.data.toList).toArray⟩ := ⟨_, rfl⟩
    have hRl : R.data.toList = Api.nameOf a0.data.toList := by rw [hR]
    obtain ⟨f1, f2, f3, f4⟩ := name_facts a0 R hRl
    have HR : Hid _ := hR
    have H3 : Hid _ := f3
    have H4 : Hid _ := f4
    have g2 : ((a0.extract 0 R.size).toList != R.toList) = false := by rw [f2]; simp
    clear hR hRl f3 f4
    by_cases hfull : R.size = a0.size
    · have g1 : (((R.size : Nat) : Int) == ((a0.size : Nat) : Int)) = true := by rw [hfull]; simp
      clear hfull
      go_enter Try.func6, Try.ntmps6
      go_wp2_with fail
      refine (Api.bytes1_yes a0 hle w).mono ?_
      rintro e w1 ⟨rfl, hw1⟩
      subst hw1
      go_wp2_with fail
      refine (Api.exportedName_go a0 _ (by omega)).mono ?_
      rintro e w2 ⟨rfl, hb⟩
      rw [← HR.out]
      go_wp2_with fail
      refine (Api.hasAnyOf_go R ⟨#[32, 91, 40]⟩ (by omega) (by decide) _).mono ?_
      rintro e w3 ⟨rfl, hw3⟩
      subst hw3
      rw [show Api.hasAny R.data.toList (⟨#[32, 91, 40]⟩ : ByteArray).data.toList = false from H3.out]
      go_wp2
      go_ret
      exact ⟨rfl, hb⟩
    · have g1 : (((R.size : Nat) : Int) == ((a0.size : Nat) : Int)) = false := beq_eq_false_iff_ne.2 (by omega)
      have hlt : R.size < a0.size := by omega
      clear hfull
      go_enter Try.func6, Try.ntmps6
      go_wp2_with fail
      refine (Api.bytes1_yes a0 hle w).mono ?_
      rintro e w1 ⟨rfl, hw1⟩
      subst hw1
      go_wp2_with fail
      refine (Api.exportedName_go a0 _ (by omega)).mono ?_
      rintro e w2 ⟨rfl, hb⟩
      rw [← HR.out]
      go_wp2_with fail
      refine (Api.hasAnyOf_go R ⟨#[32, 91, 40]⟩ (by omega) (by decide) _).mono ?_
      rintro e w3 ⟨rfl, hw3⟩
      subst hw3
      rw [show Api.hasAny R.data.toList (⟨#[32, 91, 40]⟩ : ByteArray).data.toList = false from H3.out]
      go_wp2_with fail
      refine (Api.isDelim_go _ _).mono ?_
      rintro e w4 ⟨rfl, hw4⟩
      subst hw4
      rw [H4.out hlt]
      go_wp2
      go_ret
      exact ⟨rfl, hb⟩

/-! ### THE ROW's STEP: WRITTEN OUT: LEAVE IT -/
set_option maxRecDepth 100000 in
theorem lifted (os : Os) (started : os.Started) (H : Type) (enc : TypeId × Value → H) :
    ReturnsInHanded {} Try.checked os 6 .any (Rows.fnNameAtIsLongestPrefixWithoutDelimiterSpec.pre6 enc Try.prog Try.f6 Rows.fnNameAtIsLongestPrefixWithoutDelimiterRow.domain false) (Rows.fnNameAtIsLongestPrefixWithoutDelimiterSpec.post enc Try.prog Try.f6 false true false false) := by
  refine returnsInHanded_of_change (C := Try.checked) own started (by kernel_rfl) Try.func6
    (ChangeSpec.witness6 (enc := enc) (C := Try.checked) false ⟨#[], #[.string ByteArray.empty], []⟩ 8 (by kernel_rfl) (by kernel_rfl) (by kernel_rfl) (by kernel_rfl)) ?_
  intro W base args ds gs before hval0 hW hcnd _
  have hval : ∀ (j : Nat) t v, Try.f6.params[j]? = some t → args[j]? = some v → Value.okWide Try.prog W .any base t v := hval0
  have hW' := hW
  obtain ⟨p, q, hA0, hV, rfl, hfz, hnd⟩ := hW
  have hA : DataW.TrodAll enc Try.prog W 0 (fun _ => true) true Try.f6.params.toList args.toList ds p := hA0
  rw [Try.params6] at hA hval
  obtain ⟨v0, vs0, d0, ds0, p0, q0, hargs, rfl, rfl, h0, r0⟩ := trodAll_cons hA
  obtain ⟨rfl, rfl, rfl⟩ := trodAll_nil r0
  obtain rfl : args = #[v0] := by cases args; simp_all
  obtain ⟨rfl, rfl⟩ := trodVars_none hV
  obtain ⟨a0, rfl, rfl, rfl, w0⟩ := open_string Try.underlying9 (hval 0 9 v0 rfl rfl) h0
  clear hA0 hval0
  simp only [List.append_nil] at hW'
  refine (walk a0 w0 W).mono fun e W' ⟨he, bel⟩ => ?_
  subst he
  exact ⟨_, rfl, _, _, _, [], [], [], hW', (trodAll_cons_mk (shut_bool Try.underlying4 _) trodAll_mk0), (trodAll_cons_mk (shut_string Try.underlying9 w0) trodAll_mk0), rfl, bel.frame _, fun h => by cases h⟩

theorem over : Rows.fnNameAtIsLongestPrefixWithoutDelimiterRow.holds Try.pinned (OpenSpec.ofChange Rows.fnNameAtIsLongestPrefixWithoutDelimiterSpec) :=
  OpenClaim.holds_of_wide 6 Try.f6 rfl rfl rfl rfl rfl rfl rfl ⟨rfl, rfl, rfl, rfl, rfl⟩ rfl rfl rfl rfl rfl (by kernel_rfl) Try.func6 (by kernel_rfl)
    (of_decide_eq_true (by kernel_rfl)) (by unfold Func.isWrapper; first | (rw [if_pos (by decide +kernel)]; kernel_rfl) | (rw [if_neg (by decide +kernel)]; exact ⟨rfl, rfl⟩))
    (fun os started H enc _ => lifted os started H enc)

/-- ████ THE STATEMENT ████ -/
theorem proved : Rows.FnNameAtIsLongestPrefixWithoutDelimiterSaid :=
  over
end Go.Proofs.Qxb6602240a.fnNameAtIsLongestPrefixWithoutDelimiter
