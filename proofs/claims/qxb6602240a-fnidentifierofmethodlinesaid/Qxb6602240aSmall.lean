/-
  The small callees of the laws on identifier and nameAt.
-/
import Derived.Test.Qxb6602240aAny
namespace Go.Proofs.Qxb6602240a.Api
open Go.RowKit Go.Lib

theorem take_next (s : ByteArray) (k : Nat) (h : k < s.size) : s.data.toList.take (k + 1) = s.data.toList.take k ++ [s[k]] := by
  rw [List.take_succ_eq_append_getElem (by simpa using h)]
  rfl

/-- indexByte of the laws. -/
theorem indexByte_go (s : ByteArray) (c : UInt8) (hs : s.size ≤ 1048576) (w : World) :
    Calls Try.prog 14 #[.string s, .int .u8 ((c.toNat : Nat) : Int)] w fun e w' => e = .returned (.int .i64 (Lib.indexByte s.data.toList c)) ∧ w' = w := by
  go_enter Try.func14, Try.ntmps14
  go_wp2
  go_loop [5] (fun vi => ∃ k : Nat, k ≤ s.size ∧ vi = .int .i64 k ∧ Hid (NoAny s.data.toList [c] k)) (fun vi => s.size - (RowKit.intOf vi).toNat)
  case atStart => exact ⟨0, Nat.zero_le _, rfl, NoAny.zero _ _⟩
  case round =>
    obtain ⟨k, hk, rfl, hno⟩ := hrel
    go_wp2
    · have hlt : k < s.size := by assumption
      have he : (((s[k].toNat : Nat) : Int) == ((c.toNat : Nat) : Int)) = true := by assumption
      go_ret
      have e : s[k] = c := UInt8.toNat_inj.1 (by simp only [beq_iff_eq] at he; omega)
      rw [← Lib.indexAny_one, Lib.indexAny_hit hno.out (Lib.data_getElem? s k hlt) (by rw [e]; simp)]
      exact ⟨rfl, rfl⟩
    · have hlt : k < s.size := by assumption
      have he : (((s[k].toNat : Nat) : Int) == ((c.toNat : Nat) : Int)) = false := by assumption
      have hne : s[k] ≠ c := fun e => by rw [e] at he; simp at he
      go_round
      case rel => exact ⟨k + 1, by omega, by go_num, hno.out.succ (Lib.data_getElem? s k hlt) (by simp [hne])⟩
      case measure => simp [RowKit.intOf]; omega
    · have hk2 : k = s.size := by omega
      go_ret
      have hno2 : NoAny s.data.toList [c] s.data.toList.length := by rw [← Lib.size_eq, ← hk2]; exact hno.out
      rw [← Lib.indexAny_one, Lib.indexAny_none hno2]
      exact ⟨rfl, rfl⟩

/-- Does a byte of the text stand among the set's? -/
def hasAny (l set : List UInt8) : Bool := l.any (fun b => set.contains b)

theorem hasAny_take (s : ByteArray) (set : List UInt8) (k : Nat) (h : k < s.size) (h1 : hasAny (s.data.toList.take k) set = false) (h2 : set.contains s[k] = false) :
    hasAny (s.data.toList.take (k + 1)) set = false := by
  unfold hasAny at *
  rw [take_next s k h, List.any_append, h1]
  simp only [List.any_cons, List.any_nil, h2]
  rfl

theorem hasAny_hit (s : ByteArray) (set : List UInt8) (k : Nat) (h : k < s.size) (h2 : set.contains s[k] = true) : hasAny s.data.toList set = true := by
  unfold hasAny
  rw [List.any_eq_true]
  exact ⟨s[k], List.mem_of_getElem? (Lib.data_getElem? s k h), h2⟩

theorem hasAnyOf_go (s set : ByteArray) (hs : s.size ≤ 1048576) (hset : set.size ≤ 1048576) (w : World) :
    Calls Try.prog 9 #[.string s, .string set] w fun e w' => e = .returned (.bool (hasAny s.data.toList set.data.toList)) ∧ w' = w := by
  go_enter Try.func9, Try.ntmps9
  go_wp2
  go_loop [5] (fun vi => ∃ k : Nat, k ≤ s.size ∧ vi = .int .i64 k ∧ Hid (hasAny (s.data.toList.take k) set.data.toList = false)) (fun vi => s.size - (RowKit.intOf vi).toNat)
  case atStart => exact ⟨0, Nat.zero_le _, rfl, by show _ = _; simp [hasAny]⟩
  case round =>
    obtain ⟨k, hk, rfl, hno⟩ := hrel
    by_cases hlt : k < s.size
    · have hcon := Lib.contains_iff_indexByte set.data.toList s[k]
      cases hin : set.data.toList.contains s[k]
      · rw [hin] at hcon
        have hl : ¬ ((0 : Int) ≤ Lib.indexByte set.data.toList s[k]) := of_decide_eq_false hcon.symm
        have HI : Hid (set.data.toList.contains s[k] = false) := hin
        clear hcon hin
        go_wp2_with fail
        refine (indexByte_go set s[k] hset _).mono ?_
        rintro e w1 ⟨rfl, hw1⟩
        subst hw1
        go_wp2
        go_round
        case rel => exact ⟨k + 1, by omega, by go_num, hasAny_take s _ k hlt hno.out HI.out⟩
        case measure => simp [RowKit.intOf]; omega
      · rw [hin] at hcon
        have hl : (0 : Int) ≤ Lib.indexByte set.data.toList s[k] := of_decide_eq_true hcon.symm
        have HI : Hid (set.data.toList.contains s[k] = true) := hin
        clear hcon hin
        go_wp2_with fail
        refine (indexByte_go set s[k] hset _).mono ?_
        rintro e w1 ⟨rfl, hw1⟩
        subst hw1
        go_wp2
        go_ret
        rw [hasAny_hit s _ k hlt HI.out]
        exact ⟨rfl, rfl⟩
    · go_wp2
      go_ret
      have e : hasAny s.data.toList set.data.toList = false := by
        have := hno.out
        rwa [List.take_of_length_le (by simp; omega)] at this
      rw [e]
      exact ⟨rfl, rfl⟩

theorem delims_eq (b : UInt8) : delims.contains b = ((((b.toNat : Nat) : Int) == 32) || (((b.toNat : Nat) : Int) == 91) || (((b.toNat : Nat) : Int) == 40)) := by
  have key : ∀ c : UInt8, (b == c) = (((b.toNat : Nat) : Int) == ((c.toNat : Nat) : Int)) := by
    intro c
    rw [Bool.eq_iff_iff, beq_iff_eq, beq_iff_eq, ← UInt8.toNat_inj]
    omega
  have h1 := key 32
  have h2 := key 91
  have h3 := key 40
  simp only [delims, List.contains_cons, List.contains_nil, h1, h2, h3, Bool.or_false, Bool.or_assoc]
  rfl

/-- isDelim. -/
theorem isDelim_go (b : UInt8) (w : World) :
    Calls Try.prog 11 #[.int .u8 ((b.toNat : Nat) : Int)] w fun e w' => e = .returned (.bool (delims.contains b)) ∧ w' = w := by
  rw [delims_eq]
  go_enter Try.func11, Try.ntmps11
  go_wp2
  all_goals (go_ret; exact ⟨by simp [*], rfl⟩)

/-- The bound on the lengths. -/
theorem bytes1_yes (a : ByteArray) (h : a.size ≤ 1048576) (w : World) :
    Calls Try.prog 16 #[.string a] w fun e w' => e = .returned (.bool true) ∧ w' = w := by
  go_enter Try.func16, Try.ntmps16
  go_wp2
  go_ret
  exact ⟨rfl, rfl⟩

theorem bytes1_no (a : ByteArray) (ha : a.size ≤ maxLen) (h : 1048576 < a.size) (w : World) :
    Calls Try.prog 16 #[.string a] w fun e w' => e = .returned (.bool false) ∧ w' = w := by
  unfold maxLen at ha
  go_enter Try.func16, Try.ntmps16
  go_wp2
  go_ret
  exact ⟨rfl, rfl⟩

theorem bytes3_yes (a b c : ByteArray) (h : a.size + b.size + c.size ≤ 1048576) (w : World) :
    Calls Try.prog 13 #[.string a, .string b, .string c] w fun e w' => e = .returned (.bool true) ∧ w' = w := by
  go_enter Try.func13, Try.ntmps13
  go_wp2
  go_ret
  exact ⟨rfl, rfl⟩

theorem bytes3_no (a b c : ByteArray) (ha : a.size ≤ maxLen) (hb : b.size ≤ maxLen) (hc : c.size ≤ maxLen) (h : 1048576 < a.size + b.size + c.size) (w : World) :
    Calls Try.prog 13 #[.string a, .string b, .string c] w fun e w' => e = .returned (.bool false) ∧ w' = w := by
  unfold maxLen at ha hb hc
  by_cases h1 : 1048576 < a.size
  · go_enter Try.func13, Try.ntmps13
    go_wp2
    go_ret
    exact ⟨rfl, rfl⟩
  · by_cases h2 : 1048576 < b.size
    · go_enter Try.func13, Try.ntmps13
      go_wp2
      go_ret
      exact ⟨rfl, rfl⟩
    · by_cases h3 : 1048576 < a.size + b.size
      · go_enter Try.func13, Try.ntmps13
        go_wp2
        go_ret
        exact ⟨rfl, rfl⟩
      · by_cases h4 : 1048576 < c.size
        · go_enter Try.func13, Try.ntmps13
          go_wp2
          go_ret
          exact ⟨rfl, rfl⟩
        · go_enter Try.func13, Try.ntmps13
          go_wp2
          go_ret
          exact ⟨rfl, rfl⟩

theorem bytes4_yes (s : Bool) (a b c d : ByteArray) (h : a.size + b.size + c.size + d.size ≤ 1048576) (w : World) :
    Calls Try.prog 8 #[.bool s, .string a, .string b, .string c, .string d] w fun e w' => e = .returned (.bool true) ∧ w' = w := by
  go_enter Try.func8, Try.ntmps8
  go_wp2
  go_ret
  exact ⟨rfl, rfl⟩

theorem bytes4_no (s : Bool) (a b c d : ByteArray) (ha : a.size ≤ maxLen) (hb : b.size ≤ maxLen) (hc : c.size ≤ maxLen) (hd : d.size ≤ maxLen) (h : 1048576 < a.size + b.size + c.size + d.size) (w : World) :
    Calls Try.prog 8 #[.bool s, .string a, .string b, .string c, .string d] w fun e w' => e = .returned (.bool false) ∧ w' = w := by
  unfold maxLen at ha hb hc hd
  by_cases h1 : 1048576 < a.size
  · go_enter Try.func8, Try.ntmps8
    go_wp2
    go_ret
    exact ⟨rfl, rfl⟩
  by_cases h2 : 1048576 < b.size
  · go_enter Try.func8, Try.ntmps8
    go_wp2
    go_ret
    exact ⟨rfl, rfl⟩
  by_cases h3 : 1048576 < a.size + b.size
  · go_enter Try.func8, Try.ntmps8
    go_wp2
    go_ret
    exact ⟨rfl, rfl⟩
  by_cases h4 : 1048576 < c.size
  · go_enter Try.func8, Try.ntmps8
    go_wp2
    go_ret
    exact ⟨rfl, rfl⟩
  by_cases h5 : 1048576 < a.size + b.size + c.size
  · go_enter Try.func8, Try.ntmps8
    go_wp2
    go_ret
    exact ⟨rfl, rfl⟩
  by_cases h6 : 1048576 < d.size
  · go_enter Try.func8, Try.ntmps8
    go_wp2
    go_ret
    exact ⟨rfl, rfl⟩
  go_enter Try.func8, Try.ntmps8
  go_wp2
  go_ret
  exact ⟨rfl, rfl⟩

theorem exportedName_go (s : ByteArray) (w : World) (hs : s.size < 4294967281) :
    Calls Try.prog 17 #[.string s] w fun e w' => e = .returned (.string ⟨(nameOf s.data.toList).toArray⟩) ∧ Below w.heap.size w w' := by
  go_enter Try.func17, Try.ntmps17
  go_wp2_with fail
  refine (nameAt_go s w hs).mono ?_
  rintro e w1 ⟨rfl, hb⟩
  go_wp2
  go_ret
  exact ⟨rfl, hb⟩

end Go.Proofs.Qxb6602240a.Api
