/-
  The callees of the law on tokens and the mask.
-/
import Derived.Test.Qxb6602404aShelf
import Derived.WalkKit
import Derived.WalkLawsBesides
import Derived.Lib.Strings
import Derived.Lib.IndexAny
import Derived.Lib.IndexBytes
namespace Go.Proofs.Qxb6602404a.Tok
open Go.RowKit

/-! ### plain: bytes -/
/-- The bytes of a token that are neither letters nor digits. -/
def special : List UInt8 := [33, 35, 36, 37, 38, 39, 42, 43, 45, 46, 94, 95, 96, 124, 126]

/-- A token's byte, as isToken says it. -/
def tok (b : UInt8) : Bool := (decide (97 ≤ b.toNat) && decide (b.toNat ≤ 122)) || (decide (65 ≤ b.toNat) && decide (b.toNat ≤ 90)) || (decide (48 ≤ b.toNat) && decide (b.toNat ≤ 57)) || special.contains b

theorem ofNat_toNat (b : UInt8) : UInt8.ofNat b.toNat = b := by simp

/-! ### the walks -/
theorem bytes_yes (a : ByteArray) (h : a.size ≤ 1048576) (w : World) :
    Calls Try.prog 18 #[.string a] w fun e w' => e = .returned (.bool true) ∧ w' = w := by
  go_enter Try.func18, Try.ntmps18
  go_wp2
  go_ret
  exact ⟨rfl, rfl⟩

theorem bytes_no (a : ByteArray) (ha : a.size ≤ maxLen) (h : 1048576 < a.size) (w : World) :
    Calls Try.prog 18 #[.string a] w fun e w' => e = .returned (.bool false) ∧ w' = w := by
  unfold maxLen at ha
  go_enter Try.func18, Try.ntmps18
  go_wp2
  go_ret
  exact ⟨rfl, rfl⟩

theorem mask_low_all : ∀ n, n < 64 → (bits BinOp.and IntKind.u64 (288068722172624896 / 2 ^ n) 1 == 1) = tok (UInt8.ofNat n) := by decide +kernel

theorem mask_low (b : UInt8) (h : b.toNat < 64) (w : World) :
    Calls Try.prog 19 #[.int .u8 ((b.toNat : Nat) : Int)] w fun e w' => e = .returned (.bool (tok b)) ∧ w' = w := by
  go_enter Try.func19, Try.ntmps19
  go_wp2
  go_ret
  exact ⟨by have := mask_low_all b.toNat h; rw [ofNat_toNat] at this; rw [← this]; rfl, rfl⟩

theorem mask_mid_all : ∀ n, n < 64 → (bits BinOp.and IntKind.u64 (6341068274398134270 / 2 ^ n) 1 == 1) = tok (UInt8.ofNat (n + 64)) := by decide +kernel

set_option maxRecDepth 100000 in
theorem mask_mid (b : UInt8) (h : ¬ b.toNat < 64) (h2 : b.toNat < 128) (w : World) :
    Calls Try.prog 19 #[.int .u8 ((b.toNat : Nat) : Int)] w fun e w' => e = .returned (.bool (tok b)) ∧ w' = w := by
  go_enter Try.func19, Try.ntmps19
  go_wp2
  go_ret
  exact ⟨by have := mask_mid_all (b.toNat - 64) (by omega); rw [Nat.sub_add_cancel (by omega), ofNat_toNat] at this; rw [← this]; rfl, rfl⟩

theorem high_all : ∀ n, n < 128 → tok (UInt8.ofNat (n + 128)) = false := by decide +kernel

theorem tok_high (b : UInt8) (h : ¬ b.toNat < 128) : tok b = false := by
  have := high_all (b.toNat - 128) (by have := b.toNat_lt; omega)
  rwa [Nat.sub_add_cancel (by omega), ofNat_toNat] at this

set_option maxRecDepth 100000 in
theorem mask_go (b : UInt8) (w : World) :
    Calls Try.prog 19 #[.int .u8 ((b.toNat : Nat) : Int)] w fun e w' => e = .returned (.bool (tok b)) ∧ w' = w := by
  by_cases h : b.toNat < 64
  · exact mask_low b h w
  by_cases h2 : b.toNat < 128
  · exact mask_mid b h h2 w
  rw [tok_high b h2]
  go_enter Try.func19, Try.ntmps19
  go_wp2
  go_ret
  exact ⟨rfl, rfl⟩

theorem indexByte_special (b : UInt8) (w : World) :
    Calls Try.prog 26 #[.string ⟨#[33, 35, 36, 37, 38, 39, 42, 43, 45, 46, 94, 95, 96, 124, 126]⟩, .int .u8 ((b.toNat : Nat) : Int)] w fun e w' => e = .returned (.int .i64 (Lib.indexByte special b)) ∧ w' = w := by
  have h := Try.strings_IndexByte ⟨#[33, 35, 36, 37, 38, 39, 42, 43, 45, 46, 94, 95, 96, 124, 126]⟩ ((b.toNat : Nat) : Int) w
  have e : (((b.toNat : Nat) : Int)).toNat.toUInt8 = b := by simp
  rw [e] at h
  exact h

/-! ### loops -/
theorem take_next (s : ByteArray) (k : Nat) (h : k < s.size) : s.data.toList.take (k + 1) = s.data.toList.take k ++ [s[k]] := by
  rw [List.take_succ_eq_append_getElem (by simpa using h)]
  rfl

theorem all_next (p : UInt8 → Bool) (s : ByteArray) (k : Nat) (h : k < s.size) (h1 : (s.data.toList.take k).all p = true) (h2 : p s[k] = true) : (s.data.toList.take (k + 1)).all p = true := by
  rw [take_next s k h, List.all_append, h1]
  simp [h2]

theorem all_miss (p : UInt8 → Bool) (s : ByteArray) (k : Nat) (h : k < s.size) (h2 : p s[k] = false) : s.data.toList.all p = false := by
  rw [List.all_eq_false]
  exact ⟨s[k], List.mem_of_getElem? (Lib.data_getElem? s k h), by rw [h2]; exact Bool.false_ne_true⟩

theorem all_end (p : UInt8 → Bool) (s : ByteArray) (k : Nat) (h : s.size ≤ k) (h1 : (s.data.toList.take k).all p = true) : s.data.toList.all p = true := by
  rwa [List.take_of_length_le (by rw [← Lib.size_eq]; exact h)] at h1

/-- A token. -/
def isTok (l : List UInt8) : Bool := !l.isEmpty && l.all tok

/-- The four ways of a byte. -/
theorem tok_cases (b : UInt8) : ((97 ≤ b.toNat ∧ b.toNat ≤ 122) ∧ tok b = true) ∨ ((65 ≤ b.toNat ∧ b.toNat ≤ 90) ∧ tok b = true) ∨ ((48 ≤ b.toNat ∧ b.toNat ≤ 57) ∧ tok b = true)
    ∨ (¬ (97 ≤ b.toNat ∧ b.toNat ≤ 122) ∧ ¬ (65 ≤ b.toNat ∧ b.toNat ≤ 90) ∧ ¬ (48 ≤ b.toNat ∧ b.toNat ≤ 57) ∧ tok b = decide ((0 : Int) ≤ Lib.indexByte special b)) := by
  by_cases h1 : 97 ≤ b.toNat ∧ b.toNat ≤ 122
  · exact .inl ⟨h1, by simp [tok, h1]⟩
  by_cases h2 : 65 ≤ b.toNat ∧ b.toNat ≤ 90
  · exact .inr (.inl ⟨h2, by simp [tok, h2]⟩)
  by_cases h3 : 48 ≤ b.toNat ∧ b.toNat ≤ 57
  · exact .inr (.inr (.inl ⟨h3, by simp [tok, h3]⟩))
  refine .inr (.inr (.inr ⟨h1, h2, h3, ?_⟩))
  rw [← Lib.contains_iff_indexByte special b]
  unfold tok
  have k1 : (decide (97 ≤ b.toNat) && decide (b.toNat ≤ 122)) = false := by simp; omega
  have k2 : (decide (65 ≤ b.toNat) && decide (b.toNat ≤ 90)) = false := by simp; omega
  have k3 : (decide (48 ≤ b.toNat) && decide (b.toNat ≤ 57)) = false := by simp; omega
  rw [k1, k2, k3]
  rfl

set_option maxRecDepth 100000 in
set_option maxHeartbeats 2000000 in
theorem isToken_go (s : ByteArray) (hs : s.size ≤ 1048576) (w : World) :
    Calls Try.prog 25 #[.string s] w fun e w' => e = .returned (.bool (isTok s.data.toList)) ∧ w' = w := by
  cases he : s.toList.isEmpty
  rotate_left
  · have e : isTok s.data.toList = false := by unfold isTok; rw [← Lib.toList_data, he]; rfl
    rw [e]
    clear e
    go_enter Try.func25, Try.ntmps25
    go_wp2
    go_ret
    exact ⟨rfl, rfl⟩
  have e : isTok s.data.toList = s.data.toList.all tok := by unfold isTok; rw [← Lib.toList_data, he]; rfl
  rw [e]
  obtain ⟨B, hB⟩ : ∃ B : Bool, B = s.data.toList.all tok := ⟨_, rfl⟩
  rw [← hB]
  have HB : Hid _ := hB
  clear e hB
  go_enter Try.func25, Try.ntmps25
  go_wp2
  go_loop [3, 4, 9] (fun _ _ vi => ∃ k : Nat, k ≤ s.size ∧ vi = .int .i64 k ∧ Hid ((s.data.toList.take k).all tok = true)) (fun _ _ vi => s.size - (intOf vi).toNat)
  case atStart => exact ⟨0, Nat.zero_le _, rfl, by show _ = _; simp⟩
  case round =>
    obtain ⟨k, hk, rfl, hno⟩ := hrel
    by_cases hlt : k < s.size
    · obtain ⟨x, hx⟩ : ∃ x : UInt8, ∀ h : k < s.size, s[k]'h = x := ⟨s[k], fun _ => rfl⟩
      have Hx : Hid (s[k]'hlt = x) := hx hlt
      rcases tok_cases x with ⟨⟨h1, h2⟩, ht⟩ | ⟨⟨h1, h2⟩, ht⟩ | ⟨⟨h1, h2⟩, ht⟩ | ⟨h1, h2, h3, ht⟩
      · have Ht : Hid _ := ht
        clear ht
        go_wp2
        go_round
        case rel => exact ⟨k + 1, by omega, by go_num, all_next tok s k hlt hno.out (by rw [Hx.out]; exact Ht.out)⟩
        case measure => simp [intOf]; omega
      · have Ht : Hid _ := ht
        have h3 : ¬ 97 ≤ x.toNat := by omega
        clear ht
        go_wp2
        go_round
        case rel => exact ⟨k + 1, by omega, by go_num, all_next tok s k hlt hno.out (by rw [Hx.out]; exact Ht.out)⟩
        case measure => simp [intOf]; omega
      · have Ht : Hid _ := ht
        have h3 : ¬ 97 ≤ x.toNat := by omega
        have h4 : ¬ 65 ≤ x.toNat := by omega
        clear ht
        go_wp2
        go_round
        case rel => exact ⟨k + 1, by omega, by go_num, all_next tok s k hlt hno.out (by rw [Hx.out]; exact Ht.out)⟩
        case measure => simp [intOf]; omega
      · cases htx : tok x
        · have Ht : Hid (tok x = false) := htx
          have hneg : ¬ ((0 : Int) ≤ Lib.indexByte special x) := of_decide_eq_false (by rw [← ht]; exact htx)
          clear ht htx
          go_wp2_with fail
          all_goals (refine (indexByte_special x _).mono ?_; rintro e w1 ⟨rfl, hw1⟩; subst hw1; go_wp2)
          all_goals first | (go_ret; rw [HB.out, all_miss tok s k hlt (by rw [Hx.out]; exact Ht.out)]; exact ⟨rfl, rfl⟩) | (exfalso; rename_i hbad; simp at hbad; omega)
        · have Ht : Hid (tok x = true) := htx
          have hpos : (0 : Int) ≤ Lib.indexByte special x := of_decide_eq_true (by rw [← ht]; exact htx)
          clear ht htx
          go_wp2_with fail
          all_goals (refine (indexByte_special x _).mono ?_; rintro e w1 ⟨rfl, hw1⟩; subst hw1; go_wp2; exact ⟨⟨k + 1, by omega, by go_num, all_next tok s k hlt hno.out (by rw [Hx.out]; exact Ht.out)⟩, by simp [intOf]; omega⟩)
    · go_wp2
      go_ret
      rw [HB.out, all_end tok s k (by omega) hno.out]
      exact ⟨rfl, rfl⟩

theorem exportedToken_go (s : ByteArray) (hs : s.size ≤ 1048576) (w : World) :
    Calls Try.prog 20 #[.string s] w fun e w' => e = .returned (.bool (isTok s.data.toList)) ∧ w' = w := by
  go_enter Try.func20, Try.ntmps20
  go_wp2_with fail
  refine (isToken_go s hs w).mono ?_
  rintro e w1 ⟨rfl, hw1⟩
  subst hw1
  go_wp2
  go_ret
  exact ⟨rfl, rfl⟩

end Go.Proofs.Qxb6602404a.Tok
