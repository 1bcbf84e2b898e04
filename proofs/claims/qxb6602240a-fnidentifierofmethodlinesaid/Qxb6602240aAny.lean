/-
  strings.IndexAny at the three delimiters and whatever text; nameAt.
-/
import Derived.Test.Qxb6602240aRune
import Derived.Lib.IndexBytes
namespace Go.Proofs.Qxb6602240a.Api
open Go.RowKit Go.Lib

/-- The three delimiters. -/
def delims : List UInt8 := [32, 91, 40]

theorem delims_high (b : UInt8) (h : 128 ≤ b.toNat) : delims.contains b = false := by
  have h1 : b ≠ 32 := fun e => by rw [e] at h; exact absurd h (by decide)
  have h2 : b ≠ 91 := fun e => by rw [e] at h; exact absurd h (by decide)
  have h3 : b ≠ 40 := fun e => by rw [e] at h; exact absurd h (by decide)
  simp [delims, h1, h2, h3]

theorem get_bang (s : ByteArray) (j : Nat) (b : UInt8) (h : s.data.toList[j]? = some b) : s.get! j = b := by
  have hj : j < s.data.toList.length := (List.getElem?_eq_some_iff.1 h).1
  have hj' : j < s.size := by simpa using hj
  have e : s.get! j = s[j]'hj' := by
    simp [ByteArray.get!, getElem!_pos, hj']
    rfl
  rw [e]
  have := (List.getElem?_eq_some_iff.1 h).2
  rw [← this]
  rfl

/-- Every byte of a rune beyond ASCII is beyond ASCII. -/
theorem decode_bytes (s : ByteArray) (i : Nat) (ha : 128 ≤ (s.get! (i + 0)).toNat) : ∀ j, j < (Utf8.decode s i).2 → 128 ≤ (s.get! (i + j)).toNat := by
  have hn : ¬ (s.get! (i + 0)).toNat < 128 := by omega
  simp only [Utf8.decode, hn, if_false]
  intro j
  have one : j < 1 → 128 ≤ (s.get! (i + j)).toNat := fun h => by
    have : j = 0 := by omega
    subst this; exact ha
  split
  · rename_i h
    simp only [Bool.and_eq_true, beq_iff_eq, decide_eq_true_eq] at h
    split
    · intro hj
      have hj : j < 2 := hj
      have hc : j = 0 ∨ j = 1 := by omega
      rcases hc with rfl | rfl
      · exact ha
      · omega
    · exact one
  · split
    · rename_i h
      simp only [Bool.and_eq_true, beq_iff_eq, decide_eq_true_eq] at h
      split
      · intro hj
        have hj : j < 3 := hj
        have hc : j = 0 ∨ j = 1 ∨ j = 2 := by omega
        rcases hc with rfl | rfl | rfl
        · exact ha
        · omega
        · omega
      · exact one
    · split
      · rename_i h
        simp only [Bool.and_eq_true, beq_iff_eq, decide_eq_true_eq] at h
        split
        · intro hj
          have hj : j < 4 := hj
          have hc : j = 0 ∨ j = 1 ∨ j = 2 ∨ j = 3 := by omega
          rcases hc with rfl | rfl | rfl | rfl
          · exact ha
          · omega
          · omega
          · omega
        · exact one
      · exact one

theorem noAny_rune (s : ByteArray) (i : Nat) (hi : i < s.size) (ha : 128 ≤ (s[i]'hi).toNat) (h : NoAny s.data.toList delims i) : NoAny s.data.toList delims (i + (Utf8.decode s i).2) := by
  intro j b hj hb
  by_cases hlt : j < i
  · exact h j b hlt hb
  · have hg := decode_bytes s i (by rw [get_at s i hi]; exact ha) (j - i) (by omega)
    rw [show i + (j - i) = j by omega, get_bang s j b hb] at hg
    exact delims_high b hg

set_option maxHeartbeats 4000000 in
set_option maxRecDepth 1000000 in
/-- A text of at most eight bytes, valid UTF-8 or not. -/
theorem indexAny_short (s : ByteArray) (w : World) (h8 : s.size ≤ 8) :
    Calls Try.prog 24 #[.string s, .string ⟨#[32, 91, 40]⟩] w fun e w' => e = .returned (.int .i64 (Lib.indexAny s.data.toList delims)) ∧ Below w.heap.size w w' := by
  have h8z : decide ((8 : Int) < (s.size : Int)) = false := decide_eq_false (by omega)
  go_enter Try.func24, Try.ntmps24
  go_wp2_with fail
  refine (Try.strings_shouldUseASCIISet _ _).mono ?_
  rintro e w1 ⟨rfl, hw1⟩
  subst hw1
  rw [h8z]
  go_wp2
  go_loopg [9, 10] s.size (fun g _ _ wx => ∃ i : Nat, s.size ≤ i + g ∧ wx.heap[w1.heap.size]? = some (.stringIter s i) ∧ Below w1.heap.size w1 wx ∧ Lib.NoAny s.data.toList delims i)
  case atStart => exact ⟨0, by omega, World.iter_heap _ _ _, (Below.refl _ _).alloc (Nat.le_refl _) _, Lib.NoAny.zero _ _⟩
  case round =>
    obtain ⟨i, hig, hk, hbel, hno⟩ := hrel
    have HN : Aside (Lib.NoAny s.data.toList delims i) := hno
    have HB : Aside (Below w1.heap.size w1 wr) := hbel
    clear hno hbel
    by_cases hp : i < s.size
    · by_cases ha : (s[i]'hp).toNat < 128
      · have hnx := fun ty => run_next_ascii_at (P := Try.prog) wr w1.heap.size s i ty hk hp ha
        obtain ⟨x, hx⟩ : ∃ x : UInt8, s[i]'hp = x := ⟨_, rfl⟩
        have hxl : s.data.toList[i]? = some x := by rw [← hx]; exact Lib.data_getElem? s i hp
        rw [hx] at hnx ha
        have Hx : Aside (s.data.toList[i]? = some x) := hxl
        clear hxl hx
        have hcon := Lib.contains_iff_indexByte delims x
        have hback : ((x.toNat : Int)).toNat.toUInt8 = x := by simp
        have HK : Aside ((wr.iterAt w1.heap.size s (i + 1)).heap[w1.heap.size]? = some (.stringIter s (i + 1))) := iterAt_heap wr _ s i (i + 1) hk
        have HBI : Aside (Below w1.heap.size w1 (wr.iterAt w1.heap.size s (i + 1))) := below_iterAt HB.out (Nat.le_refl _) s (i + 1)
        clear hk
        have hrune : ∀ wx, Calls Try.prog 28 #[.string ⟨#[32, 91, 40]⟩, .int .i32 ((x.toNat : Nat) : Int)] wx fun e w' => e = .returned (.int .i64 (Lib.indexByte delims x)) ∧ w' = wx := fun wx => by
          have := Try.strings_IndexRune_ascii ⟨#[32, 91, 40]⟩ ((x.toNat : Nat) : Int) wx (by omega) (by omega)
          rw [hback] at this
          exact this
        have HR : Aside _ := hrune
        clear hrune hback
        cases hin : delims.contains x
        · rw [hin] at hcon
          have hlt : ¬ ((0 : Int) ≤ Lib.indexByte delims x) := of_decide_eq_false hcon.symm
          have HI : Aside (delims.contains x = false) := hin
          clear hcon hin
          go_wp2_with fail
          refine (HR.out _).mono ?_
          rintro e w2 ⟨rfl, hw2⟩
          subst hw2
          clear hnx
          go_wp2
          go_roundg (gk - 1)
          case measure => omega
          case rel => exact ⟨i + 1, by omega, HK.out, HBI.out, HN.out.succ Hx.out HI.out⟩
        · rw [hin] at hcon
          have hge : (0 : Int) ≤ Lib.indexByte delims x := of_decide_eq_true hcon.symm
          have HI : Aside (delims.contains x = true) := hin
          clear hcon hin
          go_wp2_with fail
          refine (HR.out _).mono ?_
          rintro e w2 ⟨rfl, hw2⟩
          subst hw2
          clear hnx
          go_wp2
          go_ret
          exact ⟨by rw [Lib.indexAny_hit HN.out Hx.out HI.out]; rfl, HBI.out⟩
      · have hnx := fun ty => run_next_any_at (P := Try.prog) wr w1.heap.size s i ty hk hp
        obtain ⟨hr, hwd⟩ := decode_high s i hp (by omega)
        have HNX : Aside (Lib.NoAny s.data.toList delims (i + (Utf8.decode s i).2)) := noAny_rune s i hp (by omega) HN.out
        clear ha
        generalize hdec : Utf8.decode s i = d at *
        obtain ⟨r, k⟩ := d
        clear hdec
        have HK : Aside ((wr.iterAt w1.heap.size s (i + k)).heap[w1.heap.size]? = some (.stringIter s (i + k))) := iterAt_heap wr _ s i (i + k) hk
        have HBI : Aside (Below w1.heap.size w1 (wr.iterAt w1.heap.size s (i + k))) := below_iterAt HB.out (Nat.le_refl _) s (i + k)
        clear hk
        go_wp2_with fail
        refine (indexRune_high (r : Int) (by omega) _).mono ?_
        rintro e w2 ⟨rfl, hb2⟩
        have HK2 : Aside (w2.heap[w1.heap.size]? = some (.stringIter s (i + k))) := (hb2.block _ (Array.getElem?_eq_some_iff.1 HK.out).1).trans HK.out
        have HB2 : Aside (Below w1.heap.size w1 w2) := HBI.out.trans (hb2.mono (by have := (Array.getElem?_eq_some_iff.1 HK.out).1; omega))
        clear hb2 hnx
        go_wp2
        go_roundg (gk - 1)
        case measure => omega
        case rel => exact ⟨i + k, by omega, HK2.out, HB2.out, HNX.out⟩
    · have hnx := fun ty => run_next_end_at (P := Try.prog) wr w1.heap.size s i ty hk hp
      have HNE : Aside (Lib.NoAny s.data.toList delims s.data.toList.length) := fun j b hj hb => HN.out j b (by have := Lib.size_eq s; omega) hb
      clear hk
      go_wp2
      go_ret
      exact ⟨by rw [Lib.indexAny_none HNE.out]; rfl, HB.out⟩

/-- strings.IndexAny at the three delimiters: whatever text. -/
theorem indexAny_all (s : ByteArray) (w : World) (hs : s.size < 4294967281) :
    Calls Try.prog 24 #[.string s, .string ⟨#[32, 91, 40]⟩] w fun e w' => e = .returned (.int .i64 (Lib.indexAny s.data.toList delims)) ∧ Below w.heap.size w w' := by
  by_cases h8 : s.size ≤ 8
  · exact indexAny_short s w h8
  · have hz := zero_of_info (P := Try.prog) (t := 38) (v := .agg (Array.replicate 256 (.bool false))) (n := 256) (by kernel_rfl)
    refine (Try.strings_IndexAny_long hz.1 s ⟨#[32, 91, 40]⟩ w (by decide) (by omega) hs (by decide) ?_).mono fun e w' ⟨h1, h2⟩ => ⟨h1, ?_⟩
    · intro j b hb
      have hm : b ∈ ([32, 91, 40] : List UInt8) := List.mem_of_getElem? hb
      simp only [List.mem_cons, List.not_mem_nil, or_false] at hm
      rcases hm with rfl | rfl | rfl <;> decide
    · rw [h2]
      exact ((Below.refl _ _).alloc (Nat.le_refl _) _).alloc (by simp) _

/-- What nameAt hands back: the bytes ahead of the first delimiter. -/
def nameOf (l : List UInt8) : List UInt8 := l.takeWhile (fun b => !delims.contains b)

theorem indexAny_name : ∀ l : List UInt8, (Lib.indexAny l delims = -1 ∧ nameOf l = l) ∨ (∃ i : Nat, Lib.indexAny l delims = i ∧ i < l.length ∧ nameOf l = l.take i)
  | [] => .inl ⟨rfl, rfl⟩
  | b :: l => by
    cases hb : delims.contains b
    · rcases indexAny_name l with ⟨h1, h2⟩ | ⟨i, h1, h2, h3⟩
      · refine .inl ⟨?_, ?_⟩
        · rw [Lib.indexAny, hb, h1]; rfl
        · unfold nameOf at *
          rw [List.takeWhile_cons, hb, h2]; rfl
      · refine .inr ⟨i + 1, ?_, by simp; omega, ?_⟩
        · have hne : ((i : Int) == -1) = false := beq_eq_false_iff_ne.2 (by omega)
          rw [Lib.indexAny, hb, h1, hne]; simp
        · unfold nameOf at *
          rw [List.takeWhile_cons, hb, h3]; rfl
    · refine .inr ⟨0, ?_, by simp, ?_⟩
      · rw [Lib.indexAny, hb]; rfl
      · unfold nameOf
        rw [List.takeWhile_cons, hb]; rfl

theorem nameAt_go (s : ByteArray) (w : World) (hs : s.size < 4294967281) :
    Calls Try.prog 20 #[.string s] w fun e w' => e = .returned (.string ⟨(nameOf s.data.toList).toArray⟩) ∧ Below w.heap.size w w' := by
  rcases indexAny_name s.data.toList with ⟨h1, h2⟩ | ⟨i, h1, h2, h3⟩
  · have H1 : Hid _ := h1
    have H2 : Hid _ := h2
    clear h1 h2
    go_enter Try.func20, Try.ntmps20
    go_wp2_with fail
    refine (indexAny_all s w hs).mono ?_
    rintro e w1 ⟨rfl, hb⟩
    rw [H1.out]
    go_wp2
    go_ret
    rw [H2.out]
    exact ⟨rfl, hb⟩
  · have H1 : Hid _ := h1
    have H3 : Hid _ := h3
    have hi : i < s.size := by rw [Lib.size_eq]; exact h2
    clear h1 h2 h3
    go_enter Try.func20, Try.ntmps20
    go_wp2_with fail
    refine (indexAny_all s w hs).mono ?_
    rintro e w1 ⟨rfl, hb⟩
    rw [H1.out]
    go_wp2
    go_ret
    rw [H3.out]
    exact ⟨by rw [Lib.extract_eq]; simp, hb⟩

end Go.Proofs.Qxb6602240a.Api
