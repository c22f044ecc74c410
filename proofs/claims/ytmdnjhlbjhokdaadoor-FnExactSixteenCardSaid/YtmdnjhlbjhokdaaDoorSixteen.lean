/-
  The walk of exactly16Bytes, Exactly16Bytes and impl.Sixteen.
-/
import Derived.Test.YtmdnjhlbjhokdaaDoorCut
namespace Go.Proofs.YtmdnjhlbjhokdaaDoor
open Go.RowKit

theorem blanks_cut (n : Nat) (h : n ≤ 16) : (⟨#[32, 32, 32, 32, 32, 32, 32, 32, 32, 32, 32, 32, 32, 32, 32, 32]⟩ : ByteArray).extract 0 n = blanks n := by
  have e : (⟨#[32, 32, 32, 32, 32, 32, 32, 32, 32, 32, 32, 32, 32, 32, 32, 32]⟩ : ByteArray) = blanks 16 := rfl
  rw [e]
  apply ByteArray.ext
  apply Array.ext'
  have e1 : (blanks 16).data.toList = List.replicate 16 32 := rfl
  have e2 : (blanks n).data.toList = List.replicate n 32 := by simp [blanks]
  rw [Lib.extract_data, e1, e2, List.drop_zero, List.take_replicate, Nat.sub_zero, Nat.min_eq_left h]

set_option maxRecDepth 100000 in
set_option maxHeartbeats 400000 in
theorem exact_short (s : ByteArray) (w : World) (hs : s.size ≤ 16) :
    Calls Tryd.prog 11 #[.string s] w fun e w' => e = .returned (.string (s ++ blanks (16 - s.size))) ∧ w = w' := by
  rw [← blanks_cut _ (by omega)]
  go_enter Tryd.func11, Tryd.ntmps11
  go_wp2
  refine wp_loop_rounds 1 ?_
  rw [rounds_succ]
  go_wp2
  go_ret
  exact ⟨rfl, rfl⟩

/-- What exactly16Bytes answers: a beginning of the text, with blanks behind it up to 16 bytes. -/
def Sixteened (s : ByteArray) (w : World) (e : Ending) (w' : World) : Prop :=
  ∃ x, IsCut s x ∧ x.size ≤ 16 ∧ e = .returned (.string (x ++ blanks (16 - x.size))) ∧ Below w.heap.size w w'

/-- The loop's relation. -/
def CutRel (s : ByteArray) (w : World) (x : ByteArray) (wr : World) : Prop := IsCut s x ∧ Below w.heap.size w wr

set_option maxRecDepth 100000 in
set_option maxHeartbeats 400000 in
theorem exact_long (s : ByteArray) (w : World) (hs : s.size ≤ 2147483647) (h16 : 16 < s.size) (hd : isSyso s = false) (hT : Lib.Utf8Tabs 0 1 w) :
    Calls Tryd.prog 11 #[.string s] w fun e w' => Sixteened s w e w' := by
  have HT := Lib.hid hT
  clear hT
  go_enter Tryd.func11, Tryd.ntmps11
  go_wp2_with (go_at_call 13; refine (has_suffix s w hs (by omega)).mono ?_; rintro e w' ⟨rfl, rfl⟩)
  go_loopw [0] (fun t wr => ∃ x, t = .string x ∧ CutRel s w x wr) (fun t _ => strLen t)
  case atStart => exact ⟨s, rfl, isCut_start s h16, Below.refl _ _⟩
  case round =>
    obtain ⟨x, rfl, hc, hb⟩ := hrel
    have hxs := isCut_size hc
    by_cases hlt : 16 < x.size
    · have hl : x.data.toList.length = x.size := (Lib.size_eq x).symm
      have hne : x.data.toList ≠ [] := fun e => by rw [e] at hl; simp at hl; omega
      obtain ⟨w1, w2, _⟩ := lastWidth x.data.toList hne
      rw [hl] at w2
      have hst := isCut_step s x hc hlt
      have K := Tryd.utf8_DecodeLastRuneInString x wr (by omega) (Utf8Tabs_below HT.out hb)
      obtain ⟨d, hd⟩ : ∃ d, (Lib.decodeLastL x.data.toList).2 = d := ⟨_, rfl⟩
      obtain ⟨r, hr⟩ : ∃ r, (Lib.decodeLastL x.data.toList).1 = r := ⟨_, rfl⟩
      rw [hd] at w1 w2 hst K
      rw [hr] at K
      have HC := Lib.hid hst
      have HB := Lib.hid hb
      have HK := Lib.hid K
      clear hst hb K hc hl hne hd hr
      go_wp2_with (go_at_call 14; refine HK.out.mono ?_; rintro e w' ⟨rfl, hb2⟩; have HB2 := Lib.hid hb2; clear hb2)
      go_roundw
      case rel => exact ⟨_, rfl, HC.out, HB.out.trans (HB2.out.mono (by have := HB.out.size; omega))⟩
      case measure => show (x.extract 0 (x.size - d)).size < x.size; rw [ByteArray.size_extract]; omega
    · have hbl := blanks_cut (16 - x.size) (by omega)
      have HL := Lib.hid hbl
      have HC := Lib.hid hc
      have HB := Lib.hid hb
      clear hbl hc hb
      go_wp2
      go_ret
      exact ⟨x, HC.out, by omega, ret_str (by rw [HL.out]), HB.out⟩
end Go.Proofs.YtmdnjhlbjhokdaaDoor
