/-
  exactly16Bytes, Exactly16Bytes and impl.Sixteen, at every text that does not (being longer than 16 bytes) end in ".syso": the answer is a beginning of the text of at most 16 bytes, with blanks behind it up to 16.
-/
import Derived.Test.YtmdnjhlbjhokdaaDoorShelf
import Derived.Test.YtmdnjhlbjhokdaaDoorPad
namespace Go.Proofs.YtmdnjhlbjhokdaaDoor
open Go.RowKit

/-- Does a text (of at least five bytes) end in ".syso"? -/
def isSyso (s : ByteArray) : Bool := (s.extract (s.size - 5) s.size).toList == [46, 115, 121, 115, 111]

set_option maxRecDepth 100000 in
set_option maxHeartbeats 400000 in
theorem slit_suffix (s : ByteArray) (w : World) (hs : s.size ≤ 2147483647) (h5 : 5 ≤ s.size) :
    Calls Tryd.prog 16 #[.string s, .string ⟨#[46, 115, 121, 115, 111]⟩] w fun e w' => e = .returned (.bool (isSyso s)) ∧ w = w' := by
  go_enter Tryd.func16, Tryd.ntmps16
  go_wp2
  go_ret
  exact ⟨rfl, rfl⟩

set_option maxRecDepth 100000 in
set_option maxHeartbeats 400000 in
theorem has_suffix (s : ByteArray) (w : World) (hs : s.size ≤ 2147483647) (h5 : 5 ≤ s.size) :
    Calls Tryd.prog 13 #[.string s, .string ⟨#[46, 115, 121, 115, 111]⟩] w fun e w' => e = .returned (.bool (isSyso s)) ∧ w = w' := by
  go_enter Tryd.func13, Tryd.ntmps13
  go_wp2_with (go_at_call 16; refine (slit_suffix s w hs h5).mono ?_; rintro e w' ⟨rfl, rfl⟩)
  go_ret
  exact ⟨rfl, rfl⟩

/-- Every byte of the text is below 128. -/
def AllLow (s : ByteArray) : Prop := ∀ i, i < s.size → (s.data.toList.getD i 0).toNat < 128

/-- x is a beginning of s, of at least 16 bytes where s is of ASCII. -/
def IsCut (s x : ByteArray) : Prop := ∃ k, x = s.extract 0 k ∧ k ≤ s.size ∧ (AllLow s → 16 ≤ k)

theorem cut_size (s : ByteArray) (k : Nat) (h : k ≤ s.size) : (s.extract 0 k).size = k := by
  rw [ByteArray.size_extract]; omega

theorem isCut_size {s x : ByteArray} (h : IsCut s x) : x.size ≤ s.size := by
  obtain ⟨k, rfl, h2, _⟩ := h
  rw [cut_size s k h2]
  exact h2

/-- The width of the last rune. -/
theorem lastWidth (l : List UInt8) (h : l ≠ []) : 1 ≤ (Lib.decodeLastL l).2 ∧ (Lib.decodeLastL l).2 ≤ l.length ∧ ((l.getD (l.length - 1) 0).toNat < 128 → (Lib.decodeLastL l).2 = 1) := by
  have hp : 0 < l.length := List.length_pos_iff.2 h
  have hlt := Lib.lastStart_lt l h
  unfold Lib.decodeLastL
  rw [if_neg h]
  by_cases ha : (l.getD (l.length - 1) 0).toNat < 128
  · rw [if_pos ha]
    exact ⟨by simp, by simp; omega, fun _ => rfl⟩
  · rw [if_neg ha]
    refine ⟨?_, ?_, fun h' => absurd h' ha⟩
    all_goals
      simp only []
      split
      all_goals (try simp only [])
      all_goals omega

theorem isCut_start (s : ByteArray) (h : 16 < s.size) : IsCut s s :=
  ⟨s.size, by rw [ByteArray.extract_zero_size], Nat.le_refl _, fun _ => by omega⟩

theorem isCut_step (s x : ByteArray) (h : IsCut s x) (h16 : 16 < x.size) : IsCut s (x.extract 0 (x.size - (Lib.decodeLastL x.data.toList).2)) := by
  obtain ⟨k, rfl, h2, h3⟩ := h
  have hz := cut_size s k h2
  have hl : (s.extract 0 k).data.toList.length = k := (Lib.size_eq _).symm.trans hz
  have hne : (s.extract 0 k).data.toList ≠ [] := fun e => by rw [e] at hl; simp at hl; omega
  obtain ⟨w1, w2, w3⟩ := lastWidth _ hne
  rw [hl] at w2 w3
  have hlow : AllLow s → (Lib.decodeLastL (s.extract 0 k).data.toList).2 = 1 := fun ha => w3 (by
    rw [Lib.extract_data]
    simp only [List.drop_zero, List.getD, List.getElem?_take]
    rw [if_pos (by omega)]
    exact ha (k - 1) (by omega))
  rw [hz] at h16 ⊢
  generalize (Lib.decodeLastL (s.extract 0 k).data.toList).2 = d at *
  refine ⟨k - d, ?_, by omega, fun ha => by have := hlow ha; omega⟩
  rw [ByteArray.extract_extract]
  congr 1
  omega
end Go.Proofs.YtmdnjhlbjhokdaaDoor
