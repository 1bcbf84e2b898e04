/-
  A proof of Rows.FnIsTokenExactSaid: the frame is the kit's template for this function; the walk is ours.
-/
import Derived.Test.Qxb6602288aRows
import Derived.WalkKit
import Derived.ProofKit
import Derived.OpenShut
import Derived.ShutString
import Derived.Below
import Derived.Test.Qxb6602288aCallees
namespace Go.Proofs.Qxb6602288a.fnIsTokenExact
open Go.ChangeShapes Go.WideShapes Go.ChangeAt Go.RowKit
open Go.ChangeMaps (open_string shut_string)
set_option linter.unusedVariables false      -- a walk need not use every 'w<i>' (that an integer argument fits its kind)

theorem own : ownKnob Try.prog.godebug = none := by kernel_rfl

/-! ### STEP 1: THE WALK: the Go text returns true. -/
/-- What the law's loop has found of the bytes from k on. -/
def want (s : ByteArray) (k : Nat) : Bool := decide (0 < s.size) && (s.data.toList.drop k).all Tok.tok

theorem want_start (s : ByteArray) : want s s.size = decide (0 < s.size) := by
  unfold want
  rw [Lib.size_eq, List.drop_length]
  simp

theorem want_end (s : ByteArray) : want s 0 = Tok.isTok s.data.toList := by
  unfold want Tok.isTok
  rw [List.drop_zero, Lib.size_eq]
  cases s.data.toList <;> simp

theorem want_step (s : ByteArray) (j : Nat) (h : j < s.size) : want s j = (Tok.tok s[j] && want s (j + 1)) := by
  unfold want
  have e : s.data.toList.drop j = s[j] :: s.data.toList.drop (j + 1) := by
    rw [List.drop_eq_getElem_cons (by rw [← Lib.size_eq]; exact h)]
    rfl
  rw [e, List.all_cons]
  cases decide (0 < s.size) <;> cases Tok.tok s[j] <;> rfl

theorem walk (a0 : ByteArray) (w0 : a0.size ≤ maxLen) (w : World) :
    Calls Try.prog 3 #[.string a0] w fun e w' => e = .returned (.bool true) ∧ Below w.heap.size w w' := by
  by_cases hbig : 1048576 < a0.size
  · go_enter Try.func3, Try.ntmps3
    go_wp2_with fail
    refine (Tok.bytes_no a0 w0 hbig w).mono ?_
    rintro e w1 ⟨rfl, hw1⟩
    subst hw1
    go_wp2
    go_ret
    exact ⟨rfl, Below.refl _ _⟩
  have hle : a0.size ≤ 1048576 := by omega
  clear hbig
  go_enter Try.func3, Try.ntmps3
  go_wp2_with fail
  refine (Tok.bytes_yes a0 hle w).mono ?_
  rintro e w1 ⟨rfl, hw1⟩
  subst hw1
  go_wp2
  go_loop [3, 4] (fun vb vi => ∃ (k : Nat) (B : Bool), k ≤ a0.size ∧ vi = .int .i64 k ∧ vb = .bool B ∧ Hid (B = want a0 k)) (fun _ vi => (intOf vi).toNat)
  case atStart => exact ⟨a0.size, _, Nat.le_refl _, rfl, rfl, (want_start a0).symm⟩
  case round =>
    obtain ⟨k, B, hk, rfl, rfl, hB⟩ := hrel
    cases k with
    | zero =>
      go_wp2_with fail
      refine (Tok.exportedToken_go a0 hle _).mono ?_
      rintro e w2 ⟨rfl, hw2⟩
      subst hw2
      rw [← want_end, ← hB.out]
      go_wp2
      go_ret
      exact ⟨by simp, Below.refl _ _⟩
    | succ j =>
      have hj : j < a0.size := by omega
      cases ht : Tok.tchar a0[j]
      · have Ht : Hid _ := ht
        clear ht
        go_wp2_with fail
        refine (Tok.tchar_go a0[j] _).mono ?_
        rintro e w2 ⟨rfl, hw2⟩
        subst hw2
        rw [Ht.out]
        go_wp2
        go_round
        case rel => exact ⟨j, false, by omega, by go_num, rfl, by show _ = _; rw [want_step a0 j hj, ← Tok.tchar_eq, Ht.out]; rfl⟩
        case measure => simp [intOf]
      · have Ht : Hid _ := ht
        clear ht
        go_wp2_with fail
        refine (Tok.tchar_go a0[j] _).mono ?_
        rintro e w2 ⟨rfl, hw2⟩
        subst hw2
        rw [Ht.out]
        go_wp2
        go_round
        case rel => exact ⟨j, B, by omega, by go_num, rfl, by show _ = _; rw [want_step a0 j hj, ← Tok.tchar_eq, Ht.out, hB.out]; rfl⟩
        case measure => simp [intOf]

/-! ### THE ROW's STEP: WRITTEN OUT: LEAVE IT -/
set_option maxRecDepth 100000 in
theorem lifted (os : Os) (started : os.Started) (H : Type) (enc : TypeId × Value → H) :
    ReturnsInHanded {} Try.checked os 3 .any (Rows.fnIsTokenExactSpec.pre6 enc Try.prog Try.f3 Rows.fnIsTokenExactRow.domain false) (Rows.fnIsTokenExactSpec.post enc Try.prog Try.f3 false true false false) := by
  refine returnsInHanded_of_change (C := Try.checked) own started (by kernel_rfl) Try.func3
    (ChangeSpec.witness6 (enc := enc) (C := Try.checked) false ⟨#[], #[.string ByteArray.empty], []⟩ 8 (by kernel_rfl) (by kernel_rfl) (by kernel_rfl) (by kernel_rfl)) ?_
  intro W base args ds gs before hval0 hW hcnd _
  have hval : ∀ (j : Nat) t v, Try.f3.params[j]? = some t → args[j]? = some v → Value.okWide Try.prog W .any base t v := hval0
  have hW' := hW
  obtain ⟨p, q, hA0, hV, rfl, hfz, hnd⟩ := hW
  have hA : DataW.TrodAll enc Try.prog W 0 (fun _ => true) true Try.f3.params.toList args.toList ds p := hA0
  rw [Try.params3] at hA hval
  obtain ⟨v0, vs0, d0, ds0, p0, q0, hargs, rfl, rfl, h0, r0⟩ := trodAll_cons hA
  obtain ⟨rfl, rfl, rfl⟩ := trodAll_nil r0
  obtain rfl : args = #[v0] := by cases args; simp_all
  obtain ⟨rfl, rfl⟩ := trodVars_none hV
  obtain ⟨a0, rfl, rfl, rfl, w0⟩ := open_string Try.underlying9 (hval 0 9 v0 rfl rfl) h0
  clear hA0 hval0
  simp only [List.append_nil] at hW'
  refine (walk a0 w0 W).mono fun e W' ⟨he, bel⟩ => ?_
  subst he
  exact ⟨_, rfl, _, _, _, [], [], [], hW', (trodAll_cons_mk (shut_bool Try.underlying4 _) trodAll_mk0), (trodAll_cons_mk (shut_string Try.underlying9 w0) trodAll_mk0), rfl, bel.frame _, fun h => by cases h⟩

theorem over : Rows.fnIsTokenExactRow.holds Try.pinned (OpenSpec.ofChange Rows.fnIsTokenExactSpec) :=
  OpenClaim.holds_of_wide 3 Try.f3 rfl rfl rfl rfl rfl rfl rfl ⟨rfl, rfl, rfl, rfl, rfl⟩ rfl rfl rfl rfl rfl (by kernel_rfl) Try.func3 (by kernel_rfl)
    (of_decide_eq_true (by kernel_rfl)) (by unfold Func.isWrapper; first | (rw [if_pos (by decide +kernel)]; kernel_rfl) | (rw [if_neg (by decide +kernel)]; exact ⟨rfl, rfl⟩))
    (fun os started H enc _ => lifted os started H enc)

/-- ████ THE STATEMENT ████ -/
theorem proved : Rows.FnIsTokenExactSaid :=
  over
end Go.Proofs.Qxb6602288a.fnIsTokenExact
