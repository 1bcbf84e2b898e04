/-
  The callees of the laws on tokens and field values.
-/
import Derived.Test.Qxb6602288aShelf
import Derived.WalkKit
import Derived.WalkLawsBesides
import Derived.Lib.Strings
import Derived.Lib.IndexAny
import Derived.Lib.IndexBytes
namespace Go.Proofs.Qxb6602288a.Tok
open Go.RowKit

/-! ### plain: bytes -/
/-- The bytes of a token that are neither letters nor digits. -/
def special : List UInt8 := [33, 35, 36, 37, 38, 39, 42, 43, 45, 46, 94, 95, 96, 124, 126]

/-- The delimiters. -/
def delimiter : List UInt8 := [34, 40, 41, 44, 47, 58, 59, 60, 61, 62, 63, 64, 91, 92, 93, 123, 125]

/-- A token's byte, as isTokenByte says it. -/
def tok (b : UInt8) : Bool := (decide (97 ≤ b.toNat) && decide (b.toNat ≤ 122)) || (decide (65 ≤ b.toNat) && decide (b.toNat ≤ 90)) || (decide (48 ≤ b.toNat) && decide (b.toNat ≤ 57)) || special.contains b

/-- A token's byte, as the law says it. -/
def tchar (b : UInt8) : Bool := decide (32 < b.toNat) && decide (b.toNat < 127) && !delimiter.contains b

/-- A field value's byte. -/
def field (b : UInt8) : Bool := !((decide (b.toNat < 32) && !(b == 9)) || b == 127)

theorem ofNat_toNat (b : UInt8) : UInt8.ofNat b.toNat = b := by simp

theorem tchar_all : ∀ n, n < 256 → tchar (UInt8.ofNat n) = tok (UInt8.ofNat n) := by decide +kernel

theorem tchar_eq (b : UInt8) : tchar b = tok b := by
  have h := tchar_all b.toNat b.toNat_lt
  rwa [ofNat_toNat] at h

theorem field_all : ∀ n, n < 256 → (!tok (UInt8.ofNat n) || field (UInt8.ofNat n)) = true := by decide +kernel

theorem field_of_tok (b : UInt8) (h : tok b = true) : field b = true := by
  have h1 := field_all b.toNat b.toNat_lt
  rw [ofNat_toNat, h] at h1
  simpa using h1

/-! ### the walks -/
theorem bytes_yes (a : ByteArray) (h : a.size ≤ 1048576) (w : World) :
    Calls Try.prog 8 #[.string a] w fun e w' => e = .returned (.bool true) ∧ w' = w := by
  go_enter Try.func8, Try.ntmps8
  go_wp2
  go_ret
  exact ⟨rfl, rfl⟩

theorem bytes_no (a : ByteArray) (ha : a.size ≤ maxLen) (h : 1048576 < a.size) (w : World) :
    Calls Try.prog 8 #[.string a] w fun e w' => e = .returned (.bool false) ∧ w' = w := by
  unfold maxLen at ha
  go_enter Try.func8, Try.ntmps8
  go_wp2
  go_ret
  exact ⟨rfl, rfl⟩

theorem bytesF_yes (a : ByteArray) (h : a.size ≤ 1048576) (w : World) :
    Calls Try.prog 12 #[.string a] w fun e w' => e = .returned (.bool true) ∧ w' = w := by
  go_enter Try.func12, Try.ntmps12
  go_wp2
  go_ret
  exact ⟨rfl, rfl⟩

theorem bytesF_no (a : ByteArray) (ha : a.size ≤ maxLen) (h : 1048576 < a.size) (w : World) :
    Calls Try.prog 12 #[.string a] w fun e w' => e = .returned (.bool false) ∧ w' = w := by
  unfold maxLen at ha
  go_enter Try.func12, Try.ntmps12
  go_wp2
  go_ret
  exact ⟨rfl, rfl⟩

theorem indexByte_special (b : UInt8) (w : World) :
    Calls Try.prog 21 #[.string ⟨#[33, 35, 36, 37, 38, 39, 42, 43, 45, 46, 94, 95, 96, 124, 126]⟩, .int .u8 ((b.toNat : Nat) : Int)] w fun e w' => e = .returned (.int .i64 (Lib.indexByte special b)) ∧ w' = w := by
  have h := Try.strings_IndexByte ⟨#[33, 35, 36, 37, 38, 39, 42, 43, 45, 46, 94, 95, 96, 124, 126]⟩ ((b.toNat : Nat) : Int) w
  have e : (((b.toNat : Nat) : Int)).toNat.toUInt8 = b := by simp
  rw [e] at h
  exact h

theorem isTokenByte_go (b : UInt8) (w : World) :
    Calls Try.prog 20 #[.int .u8 ((b.toNat : Nat) : Int)] w fun e w' => e = .returned (.bool (tok b)) ∧ w' = w := by
  by_cases h1 : 97 ≤ b.toNat ∧ b.toNat ≤ 122
  · have e : tok b = true := by simp [tok, h1]
    rw [e]
    obtain ⟨h1, h2⟩ := h1
    clear e
    go_enter Try.func20, Try.ntmps20
    go_wp2
    go_ret
    exact ⟨rfl, rfl⟩
  by_cases h2 : 65 ≤ b.toNat ∧ b.toNat ≤ 90
  · have e : tok b = true := by simp [tok, h2]
    rw [e]
    obtain ⟨h2, h3⟩ := h2
    have h4 : ¬ 97 ≤ b.toNat := by omega
    clear e h1
    go_enter Try.func20, Try.ntmps20
    go_wp2
    go_ret
    exact ⟨rfl, rfl⟩
  by_cases h3 : 48 ≤ b.toNat ∧ b.toNat ≤ 57
  · have e : tok b = true := by simp [tok, h3]
    rw [e]
    obtain ⟨h3, h4⟩ := h3
    have h5 : ¬ 97 ≤ b.toNat := by omega
    have h6 : ¬ 65 ≤ b.toNat := by omega
    clear e h1 h2
    go_enter Try.func20, Try.ntmps20
    go_wp2
    go_ret
    exact ⟨rfl, rfl⟩
  have hc := Lib.contains_iff_indexByte special b
  have e : tok b = decide ((0 : Int) ≤ Lib.indexByte special b) := by
    rw [← hc]
    unfold tok
    have k1 : (decide (97 ≤ b.toNat) && decide (b.toNat ≤ 122)) = false := by simp; omega
    have k2 : (decide (65 ≤ b.toNat) && decide (b.toNat ≤ 90)) = false := by simp; omega
    have k3 : (decide (48 ≤ b.toNat) && decide (b.toNat ≤ 57)) = false := by simp; omega
    rw [k1, k2, k3]
    rfl
  rw [e]
  clear hc e
  go_enter Try.func20, Try.ntmps20
  go_wp2_with fail
  all_goals (refine (indexByte_special b _).mono ?_; rintro e w1 ⟨rfl, hw1⟩; subst hw1; go_wp2; go_ret; exact ⟨rfl, rfl⟩)

theorem beq_int (b c : UInt8) : (b == c) = (((b.toNat : Nat) : Int) == ((c.toNat : Nat) : Int)) := by
  rw [Bool.eq_iff_iff, beq_iff_eq, beq_iff_eq, ← UInt8.toNat_inj]
  omega

theorem delimiter_eq (b : UInt8) : delimiter.contains b = ((((b.toNat : Nat) : Int) == 34) || (((b.toNat : Nat) : Int) == 40) || (((b.toNat : Nat) : Int) == 41) || (((b.toNat : Nat) : Int) == 44) || (((b.toNat : Nat) : Int) == 47) || (((b.toNat : Nat) : Int) == 58) || (((b.toNat : Nat) : Int) == 59) || (((b.toNat : Nat) : Int) == 60) || (((b.toNat : Nat) : Int) == 61) || (((b.toNat : Nat) : Int) == 62) || (((b.toNat : Nat) : Int) == 63) || (((b.toNat : Nat) : Int) == 64) || (((b.toNat : Nat) : Int) == 91) || (((b.toNat : Nat) : Int) == 92) || (((b.toNat : Nat) : Int) == 93) || (((b.toNat : Nat) : Int) == 123) || (((b.toNat : Nat) : Int) == 125)) := by
  simp only [delimiter, List.contains_cons, List.contains_nil, beq_int, Bool.or_false, Bool.or_assoc]
  rfl

theorem isDelimiter_go (b : UInt8) (w : World) :
    Calls Try.prog 17 #[.int .u8 ((b.toNat : Nat) : Int)] w fun e w' => e = .returned (.bool (delimiter.contains b)) ∧ w' = w := by
  rw [delimiter_eq]
  go_enter Try.func17, Try.ntmps17
  go_wp2
  all_goals (go_ret; exact ⟨by simp [*], rfl⟩)

set_option maxRecDepth 100000 in
theorem tchar_go (b : UInt8) (w : World) :
    Calls Try.prog 9 #[.int .u8 ((b.toNat : Nat) : Int)] w fun e w' => e = .returned (.bool (tchar b)) ∧ w' = w := by
  by_cases h1 : 32 < b.toNat
  · by_cases h2 : b.toNat < 127
    · have e : tchar b = !delimiter.contains b := by simp [tchar, h1, h2]
      rw [e]
      clear e
      go_enter Try.func9, Try.ntmps9
      go_wp2_with fail
      refine (isDelimiter_go b _).mono ?_
      rintro e w1 ⟨rfl, hw1⟩
      subst hw1
      go_wp2
      go_ret
      exact ⟨by simp, rfl⟩
    · have e : tchar b = false := by simp [tchar, h2]
      rw [e]
      clear e
      go_enter Try.func9, Try.ntmps9
      go_wp2
      go_ret
      exact ⟨rfl, rfl⟩
  · have e : tchar b = false := by simp [tchar, h1]
    rw [e]
    clear e
    go_enter Try.func9, Try.ntmps9
    go_wp2
    go_ret
    exact ⟨rfl, rfl⟩

/-! ### loops -/
theorem take_next (s : ByteArray) (k : Nat) (h : k < s.size) : s.data.toList.take (k + 1) = s.data.toList.take k ++ [s[k]] := by
  rw [List.take_succ_eq_append_getElem (by simpa using h)]
  rfl

theorem all_next (p : UInt8 → Bool) (s : ByteArray) (k : Nat) (h : k < s.size) (h1 : (s.data.toList.take k).all p = true) (h2 : p s[k] = true) : (s.data.toList.take (k + 1)).all p = true := by
  rw [take_next s k h, List.all_append, h1]
  simp [h2]

theorem all_miss (p : UInt8 → Bool) (s : ByteArray) (k : Nat) (h : k < s.size) (h2 : p s[k] = false) : s.data.toList.all p = false := by
  rw [List.all_eq_false]
  exact ⟨s[k], List.mem_of_getElem? (Lib.data_getElem? s k h), by rw [h2]; exact Bool.false_ne_true⟩

theorem all_end (p : UInt8 → Bool) (s : ByteArray) (k : Nat) (h : s.size ≤ k) (h1 : (s.data.toList.take k).all p = true) : s.data.toList.all p = true := by
  rwa [List.take_of_length_le (by rw [← Lib.size_eq]; exact h)] at h1

/-- A token. -/
def isTok (l : List UInt8) : Bool := !l.isEmpty && l.all tok

theorem isToken_go (s : ByteArray) (hs : s.size ≤ 1048576) (w : World) :
    Calls Try.prog 18 #[.string s] w fun e w' => e = .returned (.bool (isTok s.data.toList)) ∧ w' = w := by
  cases he : s.toList.isEmpty
  rotate_left
  · have e : isTok s.data.toList = false := by unfold isTok; rw [← Lib.toList_data, he]; rfl
    rw [e]
    clear e
    go_enter Try.func18, Try.ntmps18
    go_wp2
    go_ret
    exact ⟨rfl, rfl⟩
  have e : isTok s.data.toList = s.data.toList.all tok := by unfold isTok; rw [← Lib.toList_data, he]; rfl
  rw [e]
  obtain ⟨B, hB⟩ : ∃ B : Bool, B = s.data.toList.all tok := ⟨_, rfl⟩
  rw [← hB]
  have HB : Hid _ := hB
  clear e hB
  go_enter Try.func18, Try.ntmps18
  go_wp2
  go_loop [3] (fun vi => ∃ k : Nat, k ≤ s.size ∧ vi = .int .i64 k ∧ Hid ((s.data.toList.take k).all tok = true)) (fun vi => s.size - (intOf vi).toNat)
  case atStart => exact ⟨0, Nat.zero_le _, rfl, by show _ = _; simp⟩
  case round =>
    obtain ⟨k, hk, rfl, hno⟩ := hrel
    by_cases hlt : k < s.size
    · cases ht : tok s[k]
      · have Ht : Hid _ := ht
        clear ht
        go_wp2_with fail
        refine (isTokenByte_go s[k] _).mono ?_
        rintro e w1 ⟨rfl, hw1⟩
        subst hw1
        rw [Ht.out]
        go_wp2
        go_ret
        rw [HB.out, all_miss tok s k hlt Ht.out]
        exact ⟨rfl, rfl⟩
      · have Ht : Hid _ := ht
        clear ht
        go_wp2_with fail
        refine (isTokenByte_go s[k] _).mono ?_
        rintro e w1 ⟨rfl, hw1⟩
        subst hw1
        rw [Ht.out]
        go_wp2
        go_round
        case rel => exact ⟨k + 1, by omega, by go_num, all_next tok s k hlt hno.out Ht.out⟩
        case measure => simp [intOf]; omega
    · go_wp2
      go_ret
      rw [HB.out, all_end tok s k (by omega) hno.out]
      exact ⟨rfl, rfl⟩

theorem exportedToken_go (s : ByteArray) (hs : s.size ≤ 1048576) (w : World) :
    Calls Try.prog 10 #[.string s] w fun e w' => e = .returned (.bool (isTok s.data.toList)) ∧ w' = w := by
  go_enter Try.func10, Try.ntmps10
  go_wp2_with fail
  refine (isToken_go s hs w).mono ?_
  rintro e w1 ⟨rfl, hw1⟩
  subst hw1
  go_wp2
  go_ret
  exact ⟨rfl, rfl⟩

theorem field_tab (b : UInt8) (h : ((b.toNat : Nat) : Int) = 9) : field b = true := by
  have e : b = 9 := UInt8.toNat_inj.1 (by show b.toNat = 9; omega)
  rw [e]; decide

theorem field_low (b : UInt8) (h1 : ((b.toNat : Nat) : Int) < 32) (h2 : ¬ ((b.toNat : Nat) : Int) = 9) : field b = false := by
  have e1 : decide (b.toNat < 32) = true := by simp; omega
  have e2 : (b == 9) = false := beq_eq_false_iff_ne.2 (fun e => h2 (by rw [e]; rfl))
  simp only [field, e1, e2]
  rfl

theorem field_del (b : UInt8) (h : (((b.toNat : Nat) : Int) == 127) = true) : field b = false := by
  have e : b = 127 := UInt8.toNat_inj.1 (by show b.toNat = 127; have := beq_iff_eq.1 h; omega)
  rw [e]; decide

theorem field_rest (b : UInt8) (h1 : ¬ ((b.toNat : Nat) : Int) < 32) (h2 : (((b.toNat : Nat) : Int) == 127) = false) : field b = true := by
  have e1 : decide (b.toNat < 32) = false := by simp; omega
  have e2 : (b == 127) = false := beq_eq_false_iff_ne.2 (fun e => (beq_eq_false_iff_ne.1 h2) (by rw [e]; rfl))
  simp only [field, e1, e2]
  rfl

theorem fieldValue_go (s : ByteArray) (hs : s.size ≤ 1048576) (w : World) :
    Calls Try.prog 19 #[.string s] w fun e w' => e = .returned (.bool (s.data.toList.all field)) ∧ w' = w := by
  obtain ⟨B, hB⟩ : ∃ B : Bool, B = s.data.toList.all field := ⟨_, rfl⟩
  rw [← hB]
  have HB : Hid _ := hB
  clear hB
  go_enter Try.func19, Try.ntmps19
  go_wp2
  go_loop [3, 4] (fun vi vc => ∃ k : Nat, k ≤ s.size ∧ vi = .int .i64 k ∧ Hid ((s.data.toList.take k).all field = true)) (fun vi _ => s.size - (intOf vi).toNat)
  case atStart => exact ⟨0, Nat.zero_le _, rfl, by show _ = _; simp⟩
  case round =>
    obtain ⟨k, hk, rfl, hno⟩ := hrel
    by_cases hlt : k < s.size
    · go_wp2
      · have hf : field s[k] = true := field_tab s[k] (by assumption)
        go_round
        case rel => exact ⟨k + 1, by omega, by go_num, all_next field s k hlt hno.out hf⟩
        case measure => simp [intOf]; omega
      · have hf : field s[k] = false := field_low s[k] (by assumption) (by assumption)
        go_ret
        rw [HB.out, all_miss field s k hlt hf]
        exact ⟨rfl, rfl⟩
      · have hf : field s[k] = false := field_del s[k] (by assumption)
        go_ret
        rw [HB.out, all_miss field s k hlt hf]
        exact ⟨rfl, rfl⟩
      · have hf : field s[k] = true := field_rest s[k] (by assumption) (by assumption)
        go_round
        case rel => exact ⟨k + 1, by omega, by go_num, all_next field s k hlt hno.out hf⟩
        case measure => simp [intOf]; omega
    · go_wp2
      go_ret
      rw [HB.out, all_end field s k (by omega) hno.out]
      exact ⟨rfl, rfl⟩

theorem exportedField_go (s : ByteArray) (hs : s.size ≤ 1048576) (w : World) :
    Calls Try.prog 13 #[.string s] w fun e w' => e = .returned (.bool (s.data.toList.all field)) ∧ w' = w := by
  obtain ⟨B, hB⟩ : ∃ B : Bool, B = s.data.toList.all field := ⟨_, rfl⟩
  have h : Calls Try.prog 19 #[.string s] w fun e w' => e = .returned (.bool B) ∧ w' = w := by rw [hB]; exact fieldValue_go s hs w
  rw [← hB]
  have H : Hid _ := h
  clear hB h
  go_enter Try.func13, Try.ntmps13
  go_wp2_with fail
  refine Calls.mono H.out ?_
  rintro e w1 ⟨rfl, hw1⟩
  subst hw1
  go_wp2
  go_ret
  exact ⟨rfl, rfl⟩

end Go.Proofs.Qxb6602288a.Tok
