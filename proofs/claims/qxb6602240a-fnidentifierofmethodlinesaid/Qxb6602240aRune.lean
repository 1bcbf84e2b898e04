/-
  strings.IndexRune in the three delimiters at a rune beyond ASCII; strings.IndexAny at the three delimiters and whatever short text.
-/
import Derived.Test.Qxb6602240aShelf
import Derived.WalkKit
import Derived.WalkLawsBesides
import Derived.BigQuiet
import Derived.Deep.QuietTactic
import Derived.Deep.Draws
import Derived.Deep.LoopGhost
import Derived.Below
import Derived.Laws.Runes
import Derived.Laws.RangeAny
import Derived.WalkMore
import Derived.LoopN
import Derived.Lib.OthersKept
import Derived.Lib.Strings
import Derived.Lib.IndexAny
import Derived.Lib.IndexMore
namespace Go.Proofs.Qxb6602240a.Api
open Go.RowKit Go.Lib

set_option maxRecDepth 1000000 in
set_option maxHeartbeats 1000000 in
/-- The rune is the error rune: the three delimiters are ranged over. -/
theorem indexRune_error (w : World) :
    Calls Try.prog 28 #[.string ⟨#[32, 91, 40]⟩, .int .i32 65533] w fun e w' => e = .returned (.int .i64 (-1)) ∧ Below w.heap.size w w' := by
  have n0 := fun ty => run_next_ascii (P := Try.prog) w ⟨#[32, 91, 40]⟩ 0 ty (by decide) (by decide)
  have n1 := fun ty => run_next_ascii (P := Try.prog) w ⟨#[32, 91, 40]⟩ 1 ty (by decide) (by decide)
  have n2 := fun ty => run_next_ascii (P := Try.prog) w ⟨#[32, 91, 40]⟩ 2 ty (by decide) (by decide)
  have n3 := fun ty => run_next_end (P := Try.prog) w ⟨#[32, 91, 40]⟩ 3 ty (by decide)
  go_enter Try.func28, Try.ntmps28
  go_wp2
  refine wp_loop_rounds 4 ?_
  rw [rounds_succ]
  go_wp2
  rw [rounds_succ]
  go_wp2
  rw [rounds_succ]
  go_wp2
  rw [rounds_succ]
  go_wp2
  go_ret
  exact ⟨rfl, (Below.refl _ _).alloc (Nat.le_refl _) _⟩

set_option maxRecDepth 1000000 in
set_option maxHeartbeats 1000000 in
/-- The rune is none. -/
theorem indexRune_bad (r : Int) (h128 : 128 ≤ r) (hne : (r == 65533) = false) (hv : Hid (Lib.validRune r = false)) (w : World) :
    Calls Try.prog 28 #[.string ⟨#[32, 91, 40]⟩, .int .i32 r] w fun e w' => e = .returned (.int .i64 (-1)) ∧ Below w.heap.size w w' := by
  have h1 : ¬ (r < 128) := by omega
  go_enter Try.func28, Try.ntmps28
  go_wp2_with fail
  refine (Try.utf8_ValidRune r w).mono ?_
  rintro e w1 ⟨rfl, hw1⟩
  subst hw1
  rw [hv.out]
  go_wp2
  go_ret
  exact ⟨rfl, Below.refl _ _⟩

theorem indexByte_miss : ∀ (l : List UInt8) (c : UInt8), (∀ b, b ∈ l → b.toNat < 128) → 128 ≤ c.toNat → Lib.indexByte l c = -1
  | [], _, _, _ => rfl
  | b :: l, c, h, hc => by
    have hb := h b (List.mem_cons_self ..)
    have hne : (b == c) = false := beq_eq_false_iff_ne.2 (fun e => by rw [e] at hb; omega)
    have ih := indexByte_miss l c (fun x hx => h x (List.mem_cons_of_mem _ hx)) hc
    rw [Lib.indexByte, hne, ih]
    rfl

/-- A byte beyond ASCII is not found in an ASCII text. -/
theorem indexByte_high (s : ByteArray) (hs : ∀ b, b ∈ s.data.toList → b.toNat < 128) (c : UInt8) (hc : 128 ≤ c.toNat) (w : World) :
    Calls Try.prog 33 #[.string s, .int .u8 ((c.toNat : Nat) : Int)] w fun e w' => e = .returned (.int .i64 (-1)) ∧ w' = w := by
  have h := Try.strings_IndexByte s ((c.toNat : Nat) : Int) w
  have e : (((c.toNat : Nat) : Int)).toNat.toUInt8 = c := by simp
  rw [e, indexByte_miss _ c hs hc] at h
  exact h

theorem ascii_tail (a b : Nat) : ∀ x, x ∈ ((⟨#[32, 91, 40]⟩ : ByteArray).extract a b).data.toList → x.toNat < 128 := by
  intro x hx
  rw [Lib.extract_data] at hx
  have hm : x ∈ ([32, 91, 40] : List UInt8) := List.mem_of_mem_drop (List.mem_of_mem_take hx)
  simp only [List.mem_cons, List.not_mem_nil, or_false] at hm
  rcases hm with rfl | rfl | rfl <;> decide

theorem ascii_empty : ∀ x, x ∈ ByteArray.empty.data.toList → x.toNat < 128 := by
  intro x hx
  have : ByteArray.empty.data.toList = [] := rfl
  rw [this] at hx
  cases hx

theorem quiet_more {P : Program} {f : FuncId} {args : Array Value} {w : World} {k n : Nat} {v : Value}
    (h : Calls P f args (w.drewN (k + n)) fun e w' => e = .returned v ∧ w' = w.drewN (k + n)) : Calls P f args (w.drewN (k + n)) fun e w'' => e = .returned v ∧ ∃ m, w'' = w.drewN (k + m) :=
  h.mono fun _ _ ⟨he, hm⟩ => ⟨he, n, hm⟩

theorem below_drewN (w : World) (n : Nat) : Below w.heap.size w (w.drewN n) := ⟨rfl, rfl, rfl, Nat.le_refl _, fun _ _ => rfl⟩

set_option maxRecDepth 1000000 in
set_option maxHeartbeats 1000000 in
/-- A rune of two bytes. -/
theorem indexRune_two (r : Int) (h128 : 128 ≤ r) (hne : (r == 65533) = false) (hv : Hid (Lib.validRune r = true)) (E : ByteArray) (hE : Utf8.encode r = E) (hz : E.size = 2)
    (hl : Hid (∀ h : 1 < E.size, 128 ≤ (E[1]'h).toNat)) (w : World) :
    Calls Try.prog 28 #[.string ⟨#[32, 91, 40]⟩, .int .i32 r] w fun e w' => e = .returned (.int .i64 (-1)) ∧ Below w.heap.size w w' := by
  have h1 : ¬ (r < 128) := by omega
  have hwr : IntKind.i64.wrap 2 = 2 := by decide
  have hdiff : ∀ (h : 1 < E.size) (h' : 1 < (⟨#[32, 91, 40]⟩ : ByteArray).size), (((((⟨#[32, 91, 40]⟩ : ByteArray)[1]'h').toNat : Nat) : Int) != (((E[1]'h).toNat : Nat) : Int)) = true := by
    intro h h'
    have := hl.out h
    have e : ((⟨#[32, 91, 40]⟩ : ByteArray)[1]'h').toNat = 91 := rfl
    rw [e, bne_iff_ne]
    omega
  go_enter Try.func28, Try.ntmps28
  go_wp2_with fail
  refine (Try.utf8_ValidRune r w).mono ?_
  rintro e w1 ⟨rfl, hw1⟩
  subst hw1
  rw [hv.out]
  go_wp2_with fail
  go_step3
  go_wp2_with fail
  refine wp_loop_rounds 1 ?_
  rw [rounds_succ]
  go_wp2_with fail
  go_step3
  go_wp2_with fail
  go_quiet (fail)
  go_wp2_with fail
  go_quiet ((go_at_call 33; exact quiet_more (indexByte_high _ (ascii_tail _ _) _ (hl.out _) _)))
  go_wp2
  rw [Exit.noGoto_ret]
  go_wp2
  rw [Exit.noGoto_ret]
  go_ret
  exact ⟨rfl, below_drewN _ _⟩

set_option maxRecDepth 1000000 in
set_option maxHeartbeats 1000000 in
/-- A rune of three bytes. -/
theorem indexRune_three (r : Int) (h128 : 128 ≤ r) (hne : (r == 65533) = false) (hv : Hid (Lib.validRune r = true)) (E : ByteArray) (hE : Utf8.encode r = E) (hz : E.size = 3)
    (hl : Hid (∀ h : 2 < E.size, 128 ≤ (E[2]'h).toNat)) (w : World) :
    Calls Try.prog 28 #[.string ⟨#[32, 91, 40]⟩, .int .i32 r] w fun e w' => e = .returned (.int .i64 (-1)) ∧ Below w.heap.size w w' := by
  have h1 : ¬ (r < 128) := by omega
  have hwr : IntKind.i64.wrap 3 = 3 := by decide
  have hdiff : ∀ (h : 2 < E.size) (h' : 2 < (⟨#[32, 91, 40]⟩ : ByteArray).size), (((((⟨#[32, 91, 40]⟩ : ByteArray)[2]'h').toNat : Nat) : Int) != (((E[2]'h).toNat : Nat) : Int)) = true := by
    intro h h'
    have := hl.out h
    have e : ((⟨#[32, 91, 40]⟩ : ByteArray)[2]'h').toNat = 40 := rfl
    rw [e, bne_iff_ne]
    omega
  go_enter Try.func28, Try.ntmps28
  go_wp2_with fail
  refine (Try.utf8_ValidRune r w).mono ?_
  rintro e w1 ⟨rfl, hw1⟩
  subst hw1
  rw [hv.out]
  go_wp2_with fail
  go_step3
  go_wp2_with fail
  refine wp_loop_rounds 1 ?_
  rw [rounds_succ]
  go_wp2_with fail
  go_step3
  go_wp2_with fail
  go_quiet (fail)
  go_wp2_with fail
  go_quiet ((go_at_call 33; exact quiet_more (indexByte_high ByteArray.empty ascii_empty _ (hl.out _) _)))
  go_wp2
  rw [Exit.noGoto_ret]
  go_wp2
  rw [Exit.noGoto_ret]
  go_ret
  exact ⟨rfl, below_drewN _ _⟩

set_option maxRecDepth 1000000 in
set_option maxHeartbeats 1000000 in
/-- A rune of four bytes. -/
theorem indexRune_four (r : Int) (h128 : 128 ≤ r) (hne : (r == 65533) = false) (hv : Hid (Lib.validRune r = true)) (E : ByteArray) (hE : Utf8.encode r = E) (hz : E.size = 4) (w : World) :
    Calls Try.prog 28 #[.string ⟨#[32, 91, 40]⟩, .int .i32 r] w fun e w' => e = .returned (.int .i64 (-1)) ∧ Below w.heap.size w w' := by
  have h1 : ¬ (r < 128) := by omega
  go_enter Try.func28, Try.ntmps28
  go_wp2_with fail
  refine (Try.utf8_ValidRune r w).mono ?_
  rintro e w1 ⟨rfl, hw1⟩
  subst hw1
  rw [hv.out]
  go_wp2_with fail
  go_step3
  go_wp2_with fail
  refine wp_loop_rounds 1 ?_
  rw [rounds_succ]
  go_wp2
  rw [Exit.noGoto_ret]
  go_ret
  exact ⟨rfl, Below.refl _ _⟩

/-- A rune beyond ASCII is none of the three delimiters. -/
theorem indexRune_high (r : Int) (h128 : 128 ≤ r) (w : World) :
    Calls Try.prog 28 #[.string ⟨#[32, 91, 40]⟩, .int .i32 r] w fun e w' => e = .returned (.int .i64 (-1)) ∧ Below w.heap.size w w' := by
  by_cases he : r = 65533
  · subst he
    exact indexRune_error w
  · have hne : (r == 65533) = false := beq_eq_false_iff_ne.2 he
    cases hv : Lib.validRune r
    · exact indexRune_bad r h128 hne hv w
    · have hv' : Utf8.valid r = true := by rw [validRune_eq]; exact hv
      obtain ⟨f1, f2, f3⟩ := encode_facts r hv' h128
      have hcase : (Utf8.encode r).size = 2 ∨ (Utf8.encode r).size = 3 ∨ (Utf8.encode r).size = 4 := by omega
      rcases hcase with hz | hz | hz
      · exact indexRune_two r h128 hne hv _ rfl hz (fun h => by have := f3 (by omega); simp only [hz] at this; exact this) w
      · exact indexRune_three r h128 hne hv _ rfl hz (fun h => by have := f3 (by omega); simp only [hz] at this; exact this) w
      · exact indexRune_four r h128 hne hv _ rfl hz w

end Go.Proofs.Qxb6602240a.Api
