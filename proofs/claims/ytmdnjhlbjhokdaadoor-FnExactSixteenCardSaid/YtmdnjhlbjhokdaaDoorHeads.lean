/-
  Exactly16Bytes and impl.Sixteen by one contract; the law's own 'heads' answers true.
-/
import Derived.Test.YtmdnjhlbjhokdaaDoorSixteen
import Derived.Test.YtmdnjhlbjhokdaaDoorTrim
namespace Go.Proofs.YtmdnjhlbjhokdaaDoor
open Go.RowKit

/-- What impl.Sixteen answers: the text's first k bytes, with blanks behind them up to 16. -/
def SixteenGives (s : ByteArray) (w : World) (e : Ending) (w' : World) : Prop :=
  ∃ k, k ≤ 16 ∧ k ≤ s.size ∧ (AllLow s → min 16 s.size ≤ k) ∧ e = .returned (.string (s.extract 0 k ++ blanks (16 - k))) ∧ Below w.heap.size w w'

theorem exact_any (s : ByteArray) (w : World) (hs : s.size ≤ 2147483647) (h : ¬ (16 < s.size ∧ isSyso s = true)) (hT : Lib.Utf8Tabs 0 1 w) :
    Calls Tryd.prog 11 #[.string s] w fun e w' => SixteenGives s w e w' := by
  by_cases h16 : 16 < s.size
  · have hd : isSyso s = false := by
      cases hx : isSyso s with
      | false => rfl
      | true => exact absurd ⟨h16, hx⟩ h
    refine (exact_long s w hs h16 hd hT).mono ?_
    rintro e w' ⟨x, ⟨k, rfl, h2, h3⟩, hx, he, hb⟩
    have hz := cut_size s k h2
    rw [hz] at hx he
    exact ⟨k, hx, h2, fun ha => by have := h3 ha; omega, he, hb⟩
  · refine (exact_short s w (by omega)).mono ?_
    rintro e w' ⟨he, rfl⟩
    exact ⟨s.size, by omega, Nat.le_refl _, fun _ => by omega, by rw [ByteArray.extract_zero_size]; exact he, Below.refl _ _⟩

set_option maxRecDepth 100000 in
set_option maxHeartbeats 400000 in
theorem exactX_any (s : ByteArray) (w : World) (hs : s.size ≤ 2147483647) (h : ¬ (16 < s.size ∧ isSyso s = true)) (hT : Lib.Utf8Tabs 0 1 w) :
    Calls Tryd.prog 9 #[.string s] w fun e w' => SixteenGives s w e w' := by
  have HK := Lib.hid (exact_any s w hs h hT)
  clear h hT
  go_enter Tryd.func9, Tryd.ntmps9
  go_wp2_with (go_at_call 11; refine HK.out.mono ?_; rintro e w' ⟨k, h1, h2, h3, rfl, h5⟩; have H3 := Lib.hid h3; have H5 := Lib.hid h5; clear h3 h5)
  go_ret
  exact ⟨k, h1, h2, H3.out, rfl, H5.out⟩

set_option maxRecDepth 100000 in
set_option maxHeartbeats 400000 in
theorem sixteen_any (s : ByteArray) (w : World) (hs : s.size ≤ 2147483647) (h : ¬ (16 < s.size ∧ isSyso s = true)) (hT : Lib.Utf8Tabs 0 1 w) :
    Calls Tryd.prog 7 #[.string s] w fun e w' => SixteenGives s w e w' := by
  have HK := Lib.hid (exactX_any s w hs h hT)
  clear h hT
  go_enter Tryd.func7, Tryd.ntmps7
  go_wp2_with (go_at_call 9; refine HK.out.mono ?_; rintro e w' ⟨k, h1, h2, h3, rfl, h5⟩; have H3 := Lib.hid h3; have H5 := Lib.hid h5; clear h3 h5)
  go_ret
  exact ⟨k, h1, h2, H3.out, rfl, H5.out⟩

set_option maxRecDepth 100000 in
set_option maxHeartbeats 400000 in
/-- At "a": the very text, the world as it was. -/
theorem sixteen_a (w : World) :
    Calls Tryd.prog 7 #[.string ⟨#[97]⟩] w fun e w' => e = .returned (.string ⟨#[97, 32, 32, 32, 32, 32, 32, 32, 32, 32, 32, 32, 32, 32, 32, 32]⟩) ∧ w = w' := by
  have hk : ∀ wx : World, Calls Tryd.prog 11 #[.string ⟨#[97]⟩] wx fun e w' => e = .returned (.string ⟨#[97, 32, 32, 32, 32, 32, 32, 32, 32, 32, 32, 32, 32, 32, 32, 32]⟩) ∧ wx = w' :=
    fun wx => exact_short ⟨#[97]⟩ wx (by decide)
  have HK := Lib.hid hk
  clear hk
  go_enter Tryd.func7, Tryd.ntmps7
  go_wp2_with (first
    | (go_at_call 9; go_in)
    | (go_at_call 11; refine (HK.out _).mono ?_; rintro e w' ⟨rfl, rfl⟩))
  go_ret
  exact ⟨rfl, rfl⟩

set_option maxRecDepth 100000 in
set_option maxHeartbeats 400000 in
theorem heads_any (w : World) :
    Calls Tryd.prog 5 #[] w fun e w' => e = .returned (.bool true) ∧ Below w.heap.size w w' := by
  go_enter Tryd.func5, Tryd.ntmps5
  go_wp2_with (first
    | (go_at_call 7; refine (sixteen_a _).mono ?_; rintro e w' ⟨rfl, rfl⟩)
    | (go_at_call 8; refine (trim_aBlank _).mono ?_; rintro e w' ⟨rfl, hb⟩; have HB := Lib.hid hb; clear hb))
  go_ret
  exact ⟨by show Ending.returned (.bool (justA.toList == [97])) = _; rw [Lib.toList_data]; rfl, HB.out⟩
end Go.Proofs.YtmdnjhlbjhokdaaDoor
