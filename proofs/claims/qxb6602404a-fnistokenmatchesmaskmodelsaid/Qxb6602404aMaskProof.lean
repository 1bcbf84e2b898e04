/-
  A proof of Rows.FnIsTokenMatchesMaskModelSaid: the frame is the kit's template for this function; the walk is ours.
-/
import Derived.Test.Qxb6602404aRows
import Derived.WalkKit
import Derived.ProofKit
import Derived.OpenShut
import Derived.ShutString
import Derived.Below
import Derived.Test.Qxb6602404aCallees
namespace Go.Proofs.Qxb6602404a.fnIsTokenMatchesMaskModel
open Go.ChangeShapes Go.WideShapes Go.ChangeAt Go.RowKit
open Go.ChangeMaps (open_string shut_string)
set_option linter.unusedVariables false      -- a walk need not use every 'w<i>' (that an integer argument fits its kind)

theorem own : ownKnob Try.prog.godebug = none := by kernel_rfl

/-! ### STEP 1: THE WALK: the Go text returns true. -/
theorem token_end (s : ByteArray) (k : Nat) (h : s.size ≤ k) (h1 : (s.data.toList.take k).all Tok.tok = true) : Tok.isTok s.data.toList = decide (0 < s.size) := by
  unfold Tok.isTok
  rw [Tok.all_end Tok.tok s k h h1, Lib.size_eq]
  cases s.data.toList <;> simp

theorem token_miss (s : ByteArray) (k : Nat) (h : k < s.size) (h1 : Tok.tok s[k] = false) : Tok.isTok s.data.toList = false := by
  unfold Tok.isTok
  rw [Tok.all_miss Tok.tok s k h h1, Bool.and_false]

theorem walk (a0 : ByteArray) (w0 : a0.size ≤ maxLen) (w : World) :
    Calls Try.prog 7 #[.string a0] w fun e w' => e = .returned (.bool true) ∧ Below w.heap.size w w' := by
  by_cases hbig : 1048576 < a0.size
  · go_enter Try.func7, Try.ntmps7
    go_wp2_with fail
    refine (Tok.bytes_no a0 w0 hbig w).mono ?_
    rintro e w1 ⟨rfl, hw1⟩
    subst hw1
    go_wp2
    go_ret
    exact ⟨rfl, Below.refl _ _⟩
  have hle : a0.size ≤ 1048576 := by omega
  clear hbig
  obtain ⟨W, hW⟩ : ∃ W : Bool, W = decide (0 < a0.size) := ⟨_, rfl⟩
  have HW : Hid _ := hW
  clear hW
  go_enter Try.func7, Try.ntmps7
  go_wp2_with fail
  refine (Tok.bytes_yes a0 hle w).mono ?_
  rintro e w1 ⟨rfl, hw1⟩
  subst hw1
  go_wp2
  go_loop [3, 4] (fun vb vi => ∃ k : Nat, k ≤ a0.size ∧ vi = .int .i64 k ∧ vb = .bool W ∧ Hid ((a0.data.toList.take k).all Tok.tok = true)) (fun _ vi => a0.size - (intOf vi).toNat)
  case atStart => exact ⟨0, Nat.zero_le _, rfl, by rw [HW.out], by show _ = _; simp⟩
  case round =>
    obtain ⟨k, hk, rfl, rfl, hno⟩ := hrel
    by_cases hlt : k < a0.size
    · cases ht : Tok.tok a0[k]
      · have Ht : Hid _ := token_miss a0 k hlt ht
        have Hm : Hid _ := ht
        clear ht
        go_wp2_with fail
        refine (Tok.mask_go a0[k] _).mono ?_
        rintro e w2 ⟨rfl, hw2⟩
        subst hw2
        rw [Hm.out]
        go_wp2_with fail
        refine (Tok.exportedToken_go a0 hle _).mono ?_
        rintro e w3 ⟨rfl, hw3⟩
        subst hw3
        rw [Ht.out]
        go_wp2
        go_ret
        exact ⟨rfl, Below.refl _ _⟩
      · have Hm : Hid _ := ht
        clear ht
        go_wp2_with fail
        refine (Tok.mask_go a0[k] _).mono ?_
        rintro e w2 ⟨rfl, hw2⟩
        subst hw2
        rw [Hm.out]
        go_wp2
        go_round
        case rel => exact ⟨k + 1, by omega, by go_num, rfl, Tok.all_next Tok.tok a0 k hlt hno.out Hm.out⟩
        case measure => simp [intOf]; omega
    · have Ht : Hid _ := token_end a0 k (by omega) hno.out
      go_wp2_with fail
      refine (Tok.exportedToken_go a0 hle _).mono ?_
      rintro e w3 ⟨rfl, hw3⟩
      subst hw3
      rw [Ht.out, ← HW.out]
      go_wp2
      go_ret
      exact ⟨by simp, Below.refl _ _⟩

/-! ### THE ROW's STEP: WRITTEN OUT: LEAVE IT -/
set_option maxRecDepth 100000 in
theorem lifted (os : Os) (started : os.Started) (H : Type) (enc : TypeId × Value → H) :
    ReturnsInHanded {} Try.checked os 7 .any (Rows.fnIsTokenMatchesMaskModelSpec.pre6 enc Try.prog Try.f7 Rows.fnIsTokenMatchesMaskModelRow.domain false) (Rows.fnIsTokenMatchesMaskModelSpec.post enc Try.prog Try.f7 false true false false) := by
  refine returnsInHanded_of_change (C := Try.checked) own started (by kernel_rfl) Try.func7
    (ChangeSpec.witness6 (enc := enc) (C := Try.checked) false ⟨#[], #[.string ByteArray.empty], []⟩ 8 (by kernel_rfl) (by kernel_rfl) (by kernel_rfl) (by kernel_rfl)) ?_
  intro W base args ds gs before hval0 hW hcnd _
  have hval : ∀ (j : Nat) t v, Try.f7.params[j]? = some t → args[j]? = some v → Value.okWide Try.prog W .any base t v := hval0
  have hW' := hW
  obtain ⟨p, q, hA0, hV, rfl, hfz, hnd⟩ := hW
  have hA : DataW.TrodAll enc Try.prog W 0 (fun _ => true) true Try.f7.params.toList args.toList ds p := hA0
  rw [Try.params7] at hA hval
  obtain ⟨v0, vs0, d0, ds0, p0, q0, hargs, rfl, rfl, h0, r0⟩ := trodAll_cons hA
  obtain ⟨rfl, rfl, rfl⟩ := trodAll_nil r0
  obtain rfl : args = #[v0] := by cases args; simp_all
  obtain ⟨rfl, rfl⟩ := trodVars_none hV
  obtain ⟨a0, rfl, rfl, rfl, w0⟩ := open_string Try.underlying9 (hval 0 9 v0 rfl rfl) h0
  clear hA0 hval0
  simp only [List.append_nil] at hW'
  refine (walk a0 w0 W).mono fun e W' ⟨he, bel⟩ => ?_
  subst he
  exact ⟨_, rfl, _, _, _, [], [], [], hW', (trodAll_cons_mk (shut_bool Try.underlying4 _) trodAll_mk0), (trodAll_cons_mk (shut_string Try.underlying9 w0) trodAll_mk0), rfl, bel.frame _, fun h => by cases h⟩

theorem over : Rows.fnIsTokenMatchesMaskModelRow.holds Try.pinned (OpenSpec.ofChange Rows.fnIsTokenMatchesMaskModelSpec) :=
  OpenClaim.holds_of_wide 7 Try.f7 rfl rfl rfl rfl rfl rfl rfl ⟨rfl, rfl, rfl, rfl, rfl⟩ rfl rfl rfl rfl rfl (by kernel_rfl) Try.func7 (by kernel_rfl)
    (of_decide_eq_true (by kernel_rfl)) (by unfold Func.isWrapper; first | (rw [if_pos (by decide +kernel)]; kernel_rfl) | (rw [if_neg (by decide +kernel)]; exact ⟨rfl, rfl⟩))
    (fun os started H enc _ => lifted os started H enc)

/-- ████ THE STATEMENT ████ -/
theorem proved : Rows.FnIsTokenMatchesMaskModelSaid :=
  over
end Go.Proofs.Qxb6602404a.fnIsTokenMatchesMaskModel
