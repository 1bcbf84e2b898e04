/-
  identifier: a plain line; a method's line.
-/
import Derived.Test.Qxb6602240aSmall
import Derived.Lib.IndexLaws
namespace Go.Proofs.Qxb6602240a.Api
open Go.RowKit Go.Lib

/-! ### plain facts -/
theorem index_of_mem (v r : List UInt8) (c : UInt8) (hno : c ∉ v) : Lib.index (v ++ c :: r) [c] = v.length := by
  refine Lib.index_first (i := v.length) (by simp) (by simp [Lib.occAt]) ?_
  intro j hj
  unfold Lib.occAt
  rw [List.drop_append_of_le_length (Nat.le_of_lt hj), List.drop_eq_getElem_cons hj]
  simp only [List.cons_append, List.isPrefixOf_cons_cons, Bool.and_eq_false_imp, beq_iff_eq]
  exact fun e => absurd (e ▸ List.getElem_mem hj) hno

theorem cut_one (v r : List UInt8) (c : UInt8) (hno : c ∉ v) : Lib.cut (v ++ c :: r) [c] = (v, r, true) := by
  unfold Lib.cut
  rw [index_of_mem v r c hno, if_pos (by omega)]
  simp

theorem cut_none (v : List UInt8) (c : UInt8) (hno : c ∉ v) : Lib.cut v [c] = (v, [], false) := by
  have h : Lib.index v [c] = -1 := by
    refine Lib.index_none ?_
    intro j _
    unfold Lib.occAt
    cases hd : v.drop j with
    | nil => rfl
    | cons b t =>
      have hb : b ∈ v := List.mem_of_mem_drop (hd ▸ List.mem_cons_self ..)
      simp only [List.isPrefixOf_cons_cons, Bool.and_eq_false_imp, beq_iff_eq]
      exact fun e => absurd (e ▸ hb) hno
  unfold Lib.cut
  rw [h, if_neg (by omega)]

theorem occ_two (s : List UInt8) (a b : UInt8) (j : Nat) : Lib.occAt s [a, b] j = true ↔ s[j]? = some a ∧ s[j + 1]? = some b := by
  unfold Lib.occAt
  have h1 : s[j + 1]? = (s.drop j)[1]? := by rw [List.getElem?_drop]
  have h0 : s[j]? = (s.drop j)[0]? := by rw [List.getElem?_drop]; simp
  rw [h1, h0]
  cases s.drop j with
  | nil => simp
  | cons x t =>
    cases t with
    | nil => simp
    | cons y t' => simp [List.isPrefixOf]; constructor <;> exact fun h => ⟨h.1.symm, h.2.symm⟩

/-- The first closing parenthesis with a blank behind it, behind a head that holds no such parenthesis and a list that holds no such pair. -/
theorem cut_close (A P R : List UInt8) (hA : (41 : UInt8) ∉ A) (hP : Lib.index P [41, 32] < 0) : Lib.cut (A ++ P ++ 41 :: 32 :: R) [41, 32] = (A ++ P, R, true) := by
  have hPn : ∀ j : Nat, ¬ (P[j]? = some 41 ∧ P[j + 1]? = some 32) := by
    intro j h
    rcases Lib.index_spec P [41, 32] with ⟨_, h2⟩ | ⟨i, h2, _⟩
    · have hj : j < P.length := (List.getElem?_eq_some_iff.1 h.1).1
      have := h2 j (by omega)
      rw [(occ_two P 41 32 j).2 h] at this
      cases this
    · omega
  have hi : Lib.index (A ++ P ++ 41 :: 32 :: R) [41, 32] = (A ++ P).length := by
    refine Lib.index_first (i := (A ++ P).length) (by simp) ((occ_two _ _ _ _).2 ⟨?_, ?_⟩) ?_
    · rw [List.getElem?_append_right (Nat.le_refl _)]; simp
    · rw [List.getElem?_append_right (by omega)]; simp
    · intro j hj
      rw [Bool.eq_false_iff]
      intro ho
      obtain ⟨h1, h2⟩ := (occ_two _ _ _ _).1 ho
      rw [List.getElem?_append_left hj] at h1
      by_cases hjA : j < A.length
      · rw [List.getElem?_append_left hjA] at h1
        exact hA (List.mem_of_getElem? h1)
      · rw [List.getElem?_append_right (by omega)] at h1
        rw [List.length_append] at hj
        by_cases hj1 : j + 1 < (A ++ P).length
        · rw [List.getElem?_append_left hj1, List.getElem?_append_right (by omega)] at h2
          exact hPn (j - A.length) ⟨h1, by rw [← h2]; congr 1; omega⟩
        · rw [List.length_append] at hj1
          rw [List.getElem?_append_right (by simp; omega)] at h2
          have e : j + 1 - (A ++ P).length = 0 := by simp; omega
          rw [e] at h2
          simp at h2
  have e1 : (((A ++ P).length : Nat) : Int).toNat = (A ++ P).length := Int.toNat_natCast _
  have e2 : List.drop ((A ++ P).length + 2) (A ++ P ++ 41 :: 32 :: R) = R := by
    rw [← List.drop_drop, List.drop_left' rfl]; rfl
  unfold Lib.cut
  rw [hi, if_pos (by omega), e1, List.take_left' rfl]
  show (A ++ P, List.drop ((A ++ P).length + 2) (A ++ P ++ 41 :: 32 :: R), true) = _
  rw [e2]

theorem nameOf_append (n t : List UInt8) (hn : hasAny n delims = false) (ht : t = [] ∨ ∃ b u, t = b :: u ∧ delims.contains b = true) : nameOf (n ++ t) = n := by
  unfold hasAny at hn
  rw [List.any_eq_false] at hn
  unfold nameOf
  rw [List.takeWhile_append_of_pos (fun b hb => by simpa using hn b hb)]
  rcases ht with rfl | ⟨b, u, rfl, hb⟩
  · simp
  · rw [List.takeWhile_cons, hb]; simp

theorem mk_list (l : List UInt8) (s : ByteArray) (h : l = s.data.toList) : (⟨l.toArray⟩ : ByteArray) = s := by rw [h]

theorem nameOf_le (s R : ByteArray) (h : R = ⟨(nameOf s.data.toList).toArray⟩) : R.size ≤ s.size := by
  rw [Lib.size_eq R, Lib.size_eq s, h]
  unfold nameOf
  exact (List.takeWhile_prefix _).length_le

/-! ### strings.Cut, its outcome told -/
theorem cut_go (s sep v r : ByteArray) (b : Bool) (hcut : Lib.cut s.data.toList sep.data.toList = (v.data.toList, r.data.toList, b)) (hs : s.size < 4294967281) (m : Int) (w : World) (hm : w.cell? ⟨0, 0, none⟩ = some (.int .i64 m)) :
    Calls Try.prog 21 #[.string s, .string sep] w fun e w' => e = .returned (.tuple #[.string v, .string r, .bool b]) ∧ Below w.heap.size w w' ∧ w'.cell? ⟨0, 0, none⟩ = some (.int .i64 m) := by
  refine (Try.strings_Cut s sep m w hs hm).mono fun e w' ⟨he, n, hn⟩ => ?_
  rw [hcut] at he
  subst hn
  exact ⟨by rw [he], below_drewN _ _, hm⟩

/-- A line whose keyword is not func, or whose rest does not open with a parenthesis. -/
theorem ident_other (line kw rest : ByteArray) (hline : Hid (line.data.toList = kw.data.toList ++ 32 :: rest.data.toList)) (hkw : Hid ((32 : UInt8) ∉ kw.data.toList)) (hs : line.size < 4294967281)
    (hnot : Hid (kw.data.toList = [102, 117, 110, 99] → Lib.hasPrefix rest.data.toList [40] = false)) (m : Int) (w : World) (hm : w.cell? ⟨0, 0, none⟩ = some (.int .i64 m)) :
    Calls Try.prog 19 #[.string line] w fun e w' => e = .returned (.string ⟨(nameOf rest.data.toList).toArray⟩) ∧ Below w.heap.size w w' := by
  have hrs : rest.size < 4294967281 := by
    have := congrArg List.length hline.out
    rw [← Lib.size_eq, List.length_append, List.length_cons, ← Lib.size_eq, ← Lib.size_eq] at this
    omega
  have hcut : Lib.cut line.data.toList (⟨#[32]⟩ : ByteArray).data.toList = (kw.data.toList, rest.data.toList, true) := by
    rw [hline.out]; exact cut_one _ _ _ hkw.out
  have HC : Hid _ := hcut
  clear hcut
  go_enter Try.func19, Try.ntmps19
  go_wp2_with fail
  refine (cut_go line ⟨#[32]⟩ kw rest true HC.out hs m w hm).mono ?_
  rintro e w1 ⟨rfl, hb1, hm1⟩
  go_wp2_with fail
  · have hf : kw.toList = [102, 117, 110, 99] := by assumption
    refine (Try.strings_HasPrefix rest ⟨#[40]⟩ _).mono ?_
    rintro e w2 ⟨rfl, hw2⟩
    subst hw2
    rw [show Lib.hasPrefix rest.data.toList (⟨#[40]⟩ : ByteArray).data.toList = false from hnot.out (by rw [← Lib.toList_data]; exact hf)]
    go_wp2_with fail
    refine (nameAt_go rest _ hrs).mono ?_
    rintro e w3 ⟨rfl, hb3⟩
    go_wp2
    go_ret
    exact ⟨rfl, hb1.trans (hb3.mono hb1.size)⟩
  · refine (nameAt_go rest _ hrs).mono ?_
    rintro e w3 ⟨rfl, hb3⟩
    go_wp2
    go_ret
    exact ⟨rfl, hb1.trans (hb3.mono hb1.size)⟩

/-- A method's line: the receiver's text ahead of its type parameters, a dot, the method's name. 'V': what stands between the parentheses; 'U': V without its star; 'r': what stands behind the first opening bracket of U. -/
theorem ident_method (line rest V N U T r : ByteArray) (b : Bool) (hline : Hid (line.data.toList = [102, 117, 110, 99] ++ 32 :: rest.data.toList)) (hs : line.size < 4294967281)
    (hrest : Hid (rest.data.toList = 40 :: (V.data.toList ++ 41 :: 32 :: N.data.toList))) (hclose : Hid (Lib.cut (V.data.toList ++ 41 :: 32 :: N.data.toList) [41, 32] = (V.data.toList, N.data.toList, true)))
    (hU : Hid (Lib.trimPrefix V.data.toList [42] = U.data.toList)) (hT : Hid (Lib.cut U.data.toList [91] = (T.data.toList, r.data.toList, b)))
    (hTs : T.size ≤ 1048576) (m : Int) (w : World) (hm : w.cell? ⟨0, 0, none⟩ = some (.int .i64 m)) :
    Calls Try.prog 19 #[.string line] w fun e w' => e = .returned (.string (T ++ ⟨#[46]⟩ ++ ⟨(nameOf N.data.toList).toArray⟩)) ∧ Below w.heap.size w w' := by
  have hls : line.size = 5 + rest.size := by
    have := congrArg List.length hline.out
    rw [← Lib.size_eq, List.length_append] at this
    simp only [List.length_cons, List.length_nil, ← Lib.size_eq] at this
    omega
  have hrz : rest.size = V.size + N.size + 3 := by
    have := congrArg List.length hrest.out
    rw [← Lib.size_eq, List.length_cons, List.length_append, List.length_cons, List.length_cons, ← Lib.size_eq, ← Lib.size_eq] at this
    omega
  have hUs : U.size ≤ V.size := by
    rw [Lib.size_eq U, Lib.size_eq V, ← hU.out]
    exact Lib.trimPrefix_le _ _
  have hr1 : 1 ≤ rest.size := by omega
  have hr2 : rest.size < 4294967281 := by omega
  have hNs : N.size < 4294967281 := by omega
  have hUz : U.size < 4294967281 := by omega
  clear hls hrz hUs
  have hcut : Lib.cut line.data.toList (⟨#[32]⟩ : ByteArray).data.toList = ((⟨#[102, 117, 110, 99]⟩ : ByteArray).data.toList, rest.data.toList, true) := by
    rw [hline.out]; exact cut_one _ _ _ (by decide)
  have HC : Hid _ := hcut
  have hpre : Lib.hasPrefix rest.data.toList (⟨#[40]⟩ : ByteArray).data.toList = true := by
    rw [hrest.out]; simp [Lib.hasPrefix]
  have HP : Hid _ := hpre
  have htail : (rest.extract 1 rest.size).data.toList = V.data.toList ++ 41 :: 32 :: N.data.toList := by
    rw [Lib.extract_data, List.take_of_length_le (by rw [List.length_drop, ← Lib.size_eq]; exact Nat.le_refl _), hrest.out]
    rfl
  have hcut2 : Lib.cut (rest.extract 1 rest.size).data.toList (⟨#[41, 32]⟩ : ByteArray).data.toList = (V.data.toList, N.data.toList, true) := by rw [htail]; exact hclose.out
  have hts : (rest.extract 1 rest.size).size < 4294967281 := by
    have : (rest.extract 1 rest.size).size = rest.size - 1 := by simp
    omega
  have HC2 : Hid _ := hcut2
  have hts : Hid _ := hts
  clear hcut hpre htail hcut2
  obtain ⟨R, hR⟩ : ∃ R : ByteArray, R = ⟨(nameOf N.data.toList).toArray⟩ := ⟨_, rfl⟩
  have hRs := nameOf_le N R hR
  rw [← hR]
  have HR : Hid _ := hR
  clear hR
  go_enter Try.func19, Try.ntmps19
  go_wp2_with fail
  refine (cut_go line ⟨#[32]⟩ ⟨#[102, 117, 110, 99]⟩ rest true HC.out hs m w hm).mono ?_
  rintro e w1 ⟨rfl, hb1, hm1⟩
  go_wp2_with fail
  refine (Try.strings_HasPrefix rest ⟨#[40]⟩ _).mono ?_
  rintro e w2 ⟨rfl, hw2⟩
  subst hw2
  rw [HP.out]
  go_wp2_with fail
  refine (cut_go _ ⟨#[41, 32]⟩ V N true HC2.out hts.out m _ hm1).mono ?_
  rintro e w3 ⟨rfl, hb3, hm3⟩
  go_wp2_with fail
  refine (Try.strings_TrimPrefix V ⟨#[42]⟩ _).mono ?_
  rintro e w4 ⟨rfl, hw4⟩
  subst hw4
  rw [mk_list _ U (show Lib.trimPrefix V.data.toList (⟨#[42]⟩ : ByteArray).data.toList = U.data.toList from hU.out)]
  go_wp2_with fail
  refine (cut_go U ⟨#[91]⟩ T r b hT.out hUz m _ hm3).mono ?_
  rintro e w5 ⟨rfl, hb5, hm5⟩
  go_wp2_with fail
  refine (nameAt_go N _ hNs).mono ?_
  rintro e w6 ⟨rfl, hb6⟩
  rw [← HR.out]
  go_wp2
  go_ret
  refine ⟨rfl, ?_⟩
  have s1 := hb1.size
  have s3 := hb3.size
  have s5 := hb5.size
  exact ((hb1.trans (hb3.mono s1)).trans (hb5.mono (by omega))).trans (hb6.mono (by omega))

/-- The exported alias. -/
theorem exported_of (line X : ByteArray) (w : World) (h : Calls Try.prog 19 #[.string line] w fun e w' => e = .returned (.string X) ∧ Below w.heap.size w w') :
    Calls Try.prog 12 #[.string line] w fun e w' => e = .returned (.string X) ∧ Below w.heap.size w w' := by
  have H : Hid _ := h
  clear h
  go_enter Try.func12, Try.ntmps12
  go_wp2_with fail
  refine Calls.mono H.out ?_
  rintro e w1 ⟨rfl, hb⟩
  go_wp2
  go_ret
  exact ⟨rfl, hb⟩

theorem byte_of_int (b c : UInt8) (n : Int) (hc : ((c.toNat : Nat) : Int) = n) (h : ((b.toNat : Nat) : Int) = n) : b = c := UInt8.toNat_inj.1 (by omega)

/-- indexCloseSpace: the first place of a closing parenthesis with a blank behind it. -/
theorem close_go (s : ByteArray) (hs : s.size ≤ 1048576) (w : World) :
    Calls Try.prog 10 #[.string s] w fun e w' => e = .returned (.int .i64 (Lib.index s.data.toList [41, 32])) ∧ w' = w := by
  go_enter Try.func10, Try.ntmps10
  go_wp2
  go_loop [3] (fun vi => ∃ k : Nat, k ≤ s.size ∧ vi = .int .i64 k ∧ Hid (NoOcc s.data.toList [41, 32] k)) (fun vi => s.size - (RowKit.intOf vi).toNat)
  case atStart => exact ⟨0, Nat.zero_le _, rfl, NoOcc.zero _ _⟩
  case round =>
    obtain ⟨k, hk, rfl, hno⟩ := hrel
    go_wp2
    · have hlt : k < s.size := by assumption
      have hlt1 : (k : Int) + 1 < (s.size : Int) := by assumption
      have h1 : (((s[k]'hlt).toNat : Nat) : Int) = 41 := by assumption
      have h2 : ((((s[k + 1]'(by omega)).toNat : Nat) : Int) == 32) = true := by assumption
      go_ret
      have e1 := byte_of_int _ 41 41 rfl h1
      have e2 := byte_of_int _ 32 32 rfl (beq_iff_eq.1 h2)
      have ho := (occ_two s.data.toList 41 32 k).2 ⟨by rw [Lib.data_getElem? s k hlt, e1], by rw [Lib.data_getElem? s (k + 1) (by omega), e2]⟩
      rw [Lib.index_hit hno.out (by rw [← Lib.size_eq]; omega) ho]
      exact ⟨rfl, rfl⟩
    · have hlt : k < s.size := by assumption
      have hlt1 : (k : Int) + 1 < (s.size : Int) := by assumption
      have h2 : ((((s[k + 1]'(by omega)).toNat : Nat) : Int) == 32) = false := by assumption
      have ho : Lib.occAt s.data.toList [41, 32] k = false := by
        rw [Bool.eq_false_iff]
        intro ho
        have h3 := ((occ_two _ _ _ _).1 ho).2
        rw [Lib.data_getElem? s (k + 1) (by omega)] at h3
        rw [Option.some.inj h3] at h2
        exact absurd h2 (by decide)
      go_round
      case rel => exact ⟨k + 1, by omega, by go_num, hno.out.succ ho⟩
      case measure => simp [RowKit.intOf]; omega
    · have hlt : k < s.size := by assumption
      have h1 : ¬ (((s[k]'hlt).toNat : Nat) : Int) = 41 := by assumption
      have ho : Lib.occAt s.data.toList [41, 32] k = false := by
        rw [Bool.eq_false_iff]
        intro ho
        have h3 := ((occ_two _ _ _ _).1 ho).1
        rw [Lib.data_getElem? s k hlt] at h3
        rw [Option.some.inj h3] at h1
        exact absurd h1 (by decide)
      go_round
      case rel => exact ⟨k + 1, by omega, by go_num, hno.out.succ ho⟩
      case measure => simp [RowKit.intOf]; omega
    · have hge : (s.size : Int) ≤ (k : Int) + 1 := by assumption
      go_ret
      rw [Lib.index_past (by decide) hno.out (by rw [← Lib.size_eq]; simp only [List.length_cons, List.length_nil]; omega)]
      exact ⟨rfl, rfl⟩

end Go.Proofs.Qxb6602240a.Api
