/-
  The walks of the callees of FnDeclaredReadsBackQuotedValue.
-/
import Derived.Test.Qxb6602134aShelf
import Derived.WalkKit
import Derived.WalkLawsBesides
import Derived.BigQuiet
import Derived.Deep.QuietTactic
import Derived.Deep.Draws
import Derived.Lib.Strings
import Derived.Lib.IndexMore
namespace Go.Proofs.Qxb6602134a.Decl
open Go.RowKit

/-- zzBytes: the three lengths together are within the bound. -/
theorem bytes_yes (a b c : ByteArray) (h : a.size + b.size + c.size ≤ 1048576) (w : World) :
    Calls Try.prog 8 #[.string a, .string b, .string c] w fun e w' => e = .returned (.bool true) ∧ w' = w := by
  go_enter Try.func8, Try.ntmps8
  go_wp2
  go_ret
  exact ⟨rfl, rfl⟩

theorem bytes_any (a b c : ByteArray) (ha : a.size ≤ maxLen) (hb : b.size ≤ maxLen) (hc : c.size ≤ maxLen) (h : 1048576 < a.size + b.size + c.size) (w : World) :
    Calls Try.prog 8 #[.string a, .string b, .string c] w fun e w' => e = .returned (.bool false) ∧ w' = w := by
  unfold maxLen at ha hb hc
  by_cases h1 : 1048576 < a.size
  · go_enter Try.func8, Try.ntmps8
    go_wp2
    go_ret
    exact ⟨rfl, rfl⟩
  · by_cases h2 : 1048576 < b.size
    · go_enter Try.func8, Try.ntmps8
      go_wp2
      go_ret
      exact ⟨rfl, rfl⟩
    · by_cases h3 : 1048576 < a.size + b.size
      · go_enter Try.func8, Try.ntmps8
        go_wp2
        go_ret
        exact ⟨rfl, rfl⟩
      · by_cases h4 : 1048576 < c.size
        · go_enter Try.func8, Try.ntmps8
          go_wp2
          go_ret
          exact ⟨rfl, rfl⟩
        · go_enter Try.func8, Try.ntmps8
          go_wp2
          go_ret
          exact ⟨rfl, rfl⟩

/-- Does the byte stand in the text? -/
def hasB (l : List UInt8) (c : UInt8) : Bool := l.any (· == c)

theorem take_next (s : ByteArray) (k : Nat) (h : k < s.size) : s.data.toList.take (k + 1) = s.data.toList.take k ++ [s[k]] := by
  rw [List.take_succ_eq_append_getElem (by simpa using h)]
  rfl

theorem hasB_next (s : ByteArray) (c : UInt8) (k : Nat) (h : k < s.size) (hno : hasB (s.data.toList.take k) c = false) (hne : (((s[k].toNat : Nat) : Int) == ((c.toNat : Nat) : Int)) = false) :
    hasB (s.data.toList.take (k + 1)) c = false := by
  rw [take_next s k h]
  unfold hasB at *
  rw [List.any_append, hno]
  have : s[k] ≠ c := fun e => by rw [e] at hne; simp at hne
  simp [this]

theorem hasB_hit (s : ByteArray) (c : UInt8) (k : Nat) (h : k < s.size) (he : (((s[k].toNat : Nat) : Int) == ((c.toNat : Nat) : Int)) = true) :
    hasB s.data.toList c = true := by
  unfold hasB
  rw [List.any_eq_true]
  refine ⟨s[k], ?_, ?_⟩
  · have : s[k] = s.data.toList[k]'(by simpa using h) := rfl
    rw [this]
    exact List.getElem_mem _
  · simp only [beq_iff_eq] at he ⊢
    exact UInt8.toNat_inj.1 (by omega)

theorem hasByte (s : ByteArray) (c : UInt8) (hs : s.size ≤ 1048576) (w : World) :
    Calls Try.prog 9 #[.string s, .int .u8 c.toNat] w fun e w' => e = .returned (.bool (hasB s.data.toList c)) ∧ w' = w := by
  go_enter Try.func9, Try.ntmps9
  go_wp2
  go_loop [5] (fun vi => ∃ k : Nat, k ≤ s.size ∧ vi = .int .i64 k ∧ Hid (hasB (s.data.toList.take k) c = false)) (fun vi => s.size - (intOf vi).toNat)
  case atStart => exact ⟨0, Nat.zero_le _, rfl, by show _ = _; simp [hasB]⟩
  case round =>
    obtain ⟨k, hk, rfl, hno⟩ := hrel
    go_wp2
    · have hlt : k < s.size := by assumption
      go_ret
      rw [hasB_hit s c k hlt (by assumption)]
      exact ⟨rfl, rfl⟩
    · have hlt : k < s.size := by assumption
      go_round
      case rel => exact ⟨k + 1, by omega, by go_num, hasB_next s c k hlt hno.out (by assumption)⟩
      case measure => simp [intOf]; omega
    · have hk2 : k = s.size := by omega
      go_ret
      have e : hasB s.data.toList c = false := by
        have := hno.out
        rwa [List.take_of_length_le (by simp; omega)] at this
      rw [e]
      exact ⟨rfl, rfl⟩

theorem first_byte (s : ByteArray) (b : UInt8) (l : List UInt8) (hl : s.data.toList = b :: l) (h : 0 < s.size) : s[0]'h = b := by
  have e : s[0]'h = s.data.toList[0]'(by rw [hl]; simp) := rfl
  rw [e]
  simp [hl]

theorem size_list (s : ByteArray) : s.size = s.data.toList.length := Lib.size_eq s

theorem index_quote (v r : List UInt8) (hno : hasB v 39 = false) : Lib.index (v ++ 39 :: r) [39] = v.length := by
  refine Lib.index_first (i := v.length) (by simp) (by simp [Lib.occAt]) ?_
  intro j hj
  unfold hasB at hno
  rw [List.any_eq_false] at hno
  have hn := hno v[j] (List.getElem_mem hj)
  simp only [beq_iff_eq] at hn
  unfold Lib.occAt
  rw [List.drop_append_of_le_length (Nat.le_of_lt hj), List.drop_eq_getElem_cons hj]
  simp only [List.cons_append, List.isPrefixOf_cons_cons, Bool.and_eq_false_imp, beq_iff_eq]
  exact fun e => absurd e.symm hn

theorem cut_quote (v r : List UInt8) (hno : hasB v 39 = false) : Lib.cut (v ++ 39 :: r) [39] = (v, r, true) := by
  unfold Lib.cut
  rw [index_quote v r hno, if_pos (by omega)]
  simp

/-- strings.Cut of what stands behind the opening quote. -/
theorem cut_tail (content value rest : ByteArray) (a : Nat) (hsz : content.size < 4294967281)
    (htail : (content.extract a content.size).data.toList = 39 :: (value.data.toList ++ 39 :: rest.data.toList)) (hno : hasB value.data.toList 39 = false) (m : Int) (w : World) (hm : w.cell? ⟨0, 0, none⟩ = some (.int .i64 m)) :
    Calls Try.prog 15 #[.string ((content.extract a content.size).extract 1 (content.size - a)), .string ((content.extract a content.size).extract 0 1)] w
      fun e w' => e = .returned (.tuple #[.string value, .string rest, .bool true]) ∧ ∃ n, w' = w.drewN n := by
  have hl : (content.extract a content.size).data.toList.length = content.size - a := by
    rw [Lib.extract_data, List.take_of_length_le (by rw [List.length_drop, ← size_list]; exact Nat.le_refl _), List.length_drop, ← size_list]
  have e1 : ((content.extract a content.size).extract 1 (content.size - a)).data.toList = value.data.toList ++ 39 :: rest.data.toList := by
    rw [Lib.extract_data, List.take_of_length_le (by rw [List.length_drop, hl]; exact Nat.le_refl _), htail]
    rfl
  have e2 : ((content.extract a content.size).extract 0 1).data.toList = [39] := by
    rw [Lib.extract_data, htail]
    rfl
  have hs : ((content.extract a content.size).extract 1 (content.size - a)).size < 4294967281 := by
    rw [size_list, e1]
    have := congrArg List.length htail
    rw [hl] at this
    simp only [List.length_cons] at this
    omega
  have h := Try.strings_Cut ((content.extract a content.size).extract 1 (content.size - a)) ((content.extract a content.size).extract 0 1) m w hs hm
  rw [e1, e2, cut_quote _ _ hno] at h
  exact h

theorem declared_go (name value rest : ByteArray) (hn : name.size + value.size + rest.size ≤ 1048576) (m : Int) (w : World) (hm : w.cell? ⟨0, 0, none⟩ = some (.int .i64 m)) (content : ByteArray)
    (hc : Hid (content.data.toList = name.data.toList ++ [61, 39] ++ value.data.toList ++ [39] ++ rest.data.toList)) (hno : Hid (hasB value.data.toList 39 = false)) :
    Calls Try.prog 13 #[.string content, .string name] w fun e w' => e = .returned (.string value) ∧ ∃ n, w' = w.drewN n := by
  have hz : content.size = name.size + value.size + rest.size + 3 := by
    have := hc.out
    rw [size_list, this]
    simp only [List.length_append, ← size_list, List.length_cons, List.length_nil]
    omega
  have hsz1 : name.size + 3 ≤ content.size := by omega
  have hsz2 : content.size < 4294967281 := by omega
  clear hz
  have hidx : Hid (Lib.index content.data.toList (name ++ ⟨#[61]⟩ : ByteArray).data.toList = 0) := by
    show _ = _
    refine Lib.index_first (i := 0) (Nat.zero_le _) ?_ (fun _ h => absurd h (Nat.not_lt_zero _))
    rw [hc.out]
    simp [Lib.occAt]
  have htail : Hid ((content.extract (name.size + 1) content.size).data.toList = 39 :: (value.data.toList ++ 39 :: rest.data.toList)) := by
    show _ = _
    rw [Lib.extract_data, List.take_of_length_le (by rw [List.length_drop, ← size_list]; exact Nat.le_refl _), hc.out]
    have : name.data.toList ++ [61, 39] ++ value.data.toList ++ [39] ++ rest.data.toList = (name.data.toList ++ [61]) ++ (39 :: (value.data.toList ++ 39 :: rest.data.toList)) := by simp
    rw [this, List.drop_left' (by simp)]
  have f1 : (content.extract (name.size + 1) content.size).toList.isEmpty = false := by rw [Lib.toList_data, htail.out]; rfl
  have f1' : ¬ (content.extract (name.size + 1) content.size).toList = [] := by rw [Lib.toList_data, htail.out]; simp
  have f2 : ∀ h : 0 < (content.extract (name.size + 1) content.size).size, ((content.extract (name.size + 1) content.size)[0]'h).toNat = 39 := by
    intro h
    rw [first_byte _ 39 _ htail.out h]
    rfl
  have f3 : (1 : Int) ≤ ((content.size - (name.size + 1) : Nat) : Int) := by omega
  go_enter Try.func13, Try.ntmps13
  go_wp2
  refine wp_loop_rounds 1 ?_
  rw [rounds_succ]
  go_wp2_with fail
  refine (Try.strings_Index content _ m w hsz2 hm).mono ?_
  rintro e w1 ⟨rfl, hw1⟩
  subst hw1
  rw [hidx.out]
  go_wp2_with fail
  go_quiet ((go_at_call 15; exact Calls.quiet_of (cut_tail content value rest (name.size + 1) hsz2 htail.out hno.out m _ (by exact hm))))
  go_wp2
  go_ret
  exact ⟨rfl, _, rfl⟩

theorem exported_go (name value rest : ByteArray) (hn : name.size + value.size + rest.size ≤ 1048576) (m : Int) (w : World) (hm : w.cell? ⟨0, 0, none⟩ = some (.int .i64 m)) (content : ByteArray)
    (hc : Hid (content.data.toList = name.data.toList ++ [61, 39] ++ value.data.toList ++ [39] ++ rest.data.toList)) (hno : Hid (hasB value.data.toList 39 = false)) :
    Calls Try.prog 10 #[.string content, .string name] w fun e w' => e = .returned (.string value) ∧ ∃ n, w' = w.drewN n := by
  go_enter Try.func10, Try.ntmps10
  go_wp2_with fail
  refine (declared_go name value rest hn m w hm content hc hno).mono ?_
  rintro e w1 ⟨rfl, n, hw1⟩
  subst hw1
  go_wp2
  go_ret
  exact ⟨rfl, _, rfl⟩

end Go.Proofs.Qxb6602134a.Decl
