/-
  A method's line, put together: what identifier hands back. No walk but identifier's own contract.
-/
import Derived.Test.Qxb6602240aIdent
namespace Go.Proofs.Qxb6602240a.Api
open Go.RowKit Go.Lib

/-- What the tail is: nothing, or it opens with a delimiter. -/
def TailFits (t : List UInt8) : Prop := t = [] ∨ ∃ b u, t = b :: u ∧ delims.contains b = true

theorem tailFits_nil (s : ByteArray) (h : ¬ 0 < s.size) : TailFits s.data.toList := by
  left
  apply List.length_eq_zero_iff.1
  rw [← Lib.size_eq]
  omega

theorem tailFits_cons (s : ByteArray) (h : 0 < s.size) (hd : delims.contains (s[0]'h) = true) : TailFits s.data.toList := by
  have h0 := Lib.data_getElem? s 0 h
  cases hl : s.data.toList with
  | nil => rw [hl] at h0; simp at h0
  | cons b u =>
    rw [hl] at h0
    simp at h0
    exact .inr ⟨b, u, rfl, by rw [h0]; exact hd⟩

/-- What the type parameters are: nothing, or they open with a bracket. -/
def ParamsFit (t : List UInt8) : Prop := t = [] ∨ ∃ u, t = 91 :: u

theorem paramsFit_nil (s : ByteArray) (h : ¬ 0 < s.size) : ParamsFit s.data.toList := by
  left
  apply List.length_eq_zero_iff.1
  rw [← Lib.size_eq]
  omega

theorem paramsFit_cons (s : ByteArray) (h : 0 < s.size) (hd : s[0]'h = 91) : ParamsFit s.data.toList := by
  have h0 := Lib.data_getElem? s 0 h
  cases hl : s.data.toList with
  | nil => rw [hl] at h0; simp at h0
  | cons b u =>
    rw [hl] at h0
    simp at h0
    exact .inr ⟨u, by rw [h0, hd]⟩

theorem not_mem_of_hasAny {l set : List UInt8} {c : UInt8} (h : hasAny l set = false) (hc : set.contains c = true) : c ∉ l := by
  intro hm
  unfold hasAny at h
  rw [List.any_eq_false] at h
  exact h c hm hc

theorem cut_params (T P : List UInt8) (hT : (91 : UInt8) ∉ T) (hP : ParamsFit P) : ∃ (r : List UInt8) (b : Bool), Lib.cut (T ++ P) [91] = (T, r, b) := by
  rcases hP with rfl | ⟨u, rfl⟩
  · exact ⟨[], false, by rw [List.append_nil]; exact cut_none T 91 hT⟩
  · exact ⟨u, true, cut_one T u 91 hT⟩

theorem trim_star (L : List UInt8) : Lib.trimPrefix (42 :: L) [42] = L := by
  unfold Lib.trimPrefix Lib.hasPrefix
  simp

theorem trim_none (T P : List UInt8) (hT : (42 : UInt8) ∉ T) (hP : ParamsFit P) : Lib.trimPrefix (T ++ P) [42] = T ++ P := by
  have h : Lib.hasPrefix (T ++ P) [42] = false := by
    unfold Lib.hasPrefix
    cases T with
    | cons b u =>
      have : b ≠ 42 := fun e => hT (e ▸ List.mem_cons_self ..)
      simp [List.isPrefixOf, this.symm]
    | nil =>
      rcases hP with rfl | ⟨u, rfl⟩
      · rfl
      · simp [List.isPrefixOf]
  unfold Lib.trimPrefix
  rw [h]
  rfl

/-- Both lines at once: 'star': the star's bytes. -/
theorem method_any (star : List UInt8) (hstar : star = [] ∨ star = [42]) (line a1 a2 a3 a4 : ByteArray) (hle : a1.size + a2.size + a3.size + a4.size ≤ 1048576)
    (hline : line.data.toList = [102, 117, 110, 99] ++ 32 :: 40 :: (star ++ a1.data.toList ++ a2.data.toList ++ 41 :: 32 :: (a3.data.toList ++ a4.data.toList)))
    (ht : hasAny a1.data.toList [42, 41, 91] = false) (hp : ParamsFit a2.data.toList) (hc : Lib.index a2.data.toList [41, 32] < 0) (hn : hasAny a3.data.toList delims = false) (htl : TailFits a4.data.toList)
    (m : Int) (w : World) (hm : w.cell? ⟨0, 0, none⟩ = some (.int .i64 m)) :
    Calls Try.prog 19 #[.string line] w fun e w' => e = .returned (.string (a1 ++ ⟨#[46]⟩ ++ a3)) ∧ Below w.heap.size w w' := by
  have n42 : (42 : UInt8) ∉ a1.data.toList := not_mem_of_hasAny ht (by decide)
  have n41 : (41 : UInt8) ∉ a1.data.toList := not_mem_of_hasAny ht (by decide)
  have n91 : (91 : UInt8) ∉ a1.data.toList := not_mem_of_hasAny ht (by decide)
  have s41 : (41 : UInt8) ∉ star ++ a1.data.toList := by
    intro h
    rcases List.mem_append.1 h with h | h
    · rcases hstar with rfl | rfl
      · cases h
      · exact absurd h (by decide)
    · exact n41 h
  have sl : star.length ≤ 1 := by rcases hstar with rfl | rfl <;> simp
  obtain ⟨r, b, hcut⟩ := cut_params a1.data.toList a2.data.toList n91 hp
  have hU : Lib.trimPrefix (star ++ a1.data.toList ++ a2.data.toList) [42] = a1.data.toList ++ a2.data.toList := by
    rcases hstar with rfl | rfl
    · exact trim_none _ _ n42 hp
    · exact trim_star _
  have hclose := cut_close (star ++ a1.data.toList) a2.data.toList (a3.data.toList ++ a4.data.toList) s41 hc
  have hlz : line.size < 4294967281 := by
    rw [Lib.size_eq, hline]
    simp only [List.length_append, List.length_cons, List.length_nil, ← Lib.size_eq]
    omega
  have h := ident_method line ⟨(40 :: (star ++ a1.data.toList ++ a2.data.toList ++ 41 :: 32 :: (a3.data.toList ++ a4.data.toList))).toArray⟩ ⟨(star ++ a1.data.toList ++ a2.data.toList).toArray⟩ ⟨(a3.data.toList ++ a4.data.toList).toArray⟩ ⟨(a1.data.toList ++ a2.data.toList).toArray⟩ a1 ⟨r.toArray⟩ b
    hline hlz rfl hclose hU hcut (by omega) m w hm
  have hN : nameOf (⟨(a3.data.toList ++ a4.data.toList).toArray⟩ : ByteArray).data.toList = a3.data.toList := nameOf_append _ _ hn htl
  rw [hN] at h
  exact h

/-- A method's line without a star. -/
theorem method_plain (a1 a2 a3 a4 : ByteArray) (hle : a1.size + a2.size + a3.size + a4.size ≤ 1048576)
    (ht : Hid (hasAny a1.data.toList (⟨#[42, 41, 91]⟩ : ByteArray).data.toList = false)) (hp : Hid (ParamsFit a2.data.toList)) (hc : Hid (Lib.index a2.data.toList [41, 32] < 0)) (hn : Hid (hasAny a3.data.toList (⟨#[32, 91, 40]⟩ : ByteArray).data.toList = false)) (htl : Hid (TailFits a4.data.toList))
    (m : Int) (w : World) (hm : w.cell? ⟨0, 0, none⟩ = some (.int .i64 m)) :
    Calls Try.prog 19 #[.string (⟨#[102, 117, 110, 99, 32, 40]⟩ ++ a1 ++ a2 ++ ⟨#[41, 32]⟩ ++ a3 ++ a4)] w fun e w' => e = .returned (.string (a1 ++ ⟨#[46]⟩ ++ a3)) ∧ Below w.heap.size w w' :=
  method_any [] (.inl rfl) _ a1 a2 a3 a4 hle (by simp) ht.out hp.out hc.out hn.out htl.out m w hm

/-- A method's line with a star. -/
theorem method_star (a1 a2 a3 a4 : ByteArray) (hle : a1.size + a2.size + a3.size + a4.size ≤ 1048576)
    (ht : Hid (hasAny a1.data.toList (⟨#[42, 41, 91]⟩ : ByteArray).data.toList = false)) (hp : Hid (ParamsFit a2.data.toList)) (hc : Hid (Lib.index a2.data.toList [41, 32] < 0)) (hn : Hid (hasAny a3.data.toList (⟨#[32, 91, 40]⟩ : ByteArray).data.toList = false)) (htl : Hid (TailFits a4.data.toList))
    (m : Int) (w : World) (hm : w.cell? ⟨0, 0, none⟩ = some (.int .i64 m)) :
    Calls Try.prog 19 #[.string (⟨#[102, 117, 110, 99, 32, 40, 42]⟩ ++ a1 ++ a2 ++ ⟨#[41, 32]⟩ ++ a3 ++ a4)] w fun e w' => e = .returned (.string (a1 ++ ⟨#[46]⟩ ++ a3)) ∧ Below w.heap.size w w' :=
  method_any [42] (.inr rfl) _ a1 a2 a3 a4 hle (by simp) ht.out hp.out hc.out hn.out htl.out m w hm

end Go.Proofs.Qxb6602240a.Api
