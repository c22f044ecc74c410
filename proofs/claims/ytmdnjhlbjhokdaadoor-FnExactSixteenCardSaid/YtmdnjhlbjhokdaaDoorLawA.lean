/-
  The walk of laws.FnExactSixteen: at every text it answers true.
-/
import Derived.Test.YtmdnjhlbjhokdaaDoorHeads
import Derived.Deep.RegionWith
namespace Go.Proofs.YtmdnjhlbjhokdaaDoor
open Go.RowKit

/-- Every byte of the text is at most 126. -/
def AllSign (s : ByteArray) : Prop := ∀ i, i < s.size → (s.data.toList.getD i 0).toNat ≤ 126

/-- .. so far. -/
def LowTo (s : ByteArray) (k : Nat) : Prop := ∀ i, i < k → (s.data.toList.getD i 0).toNat ≤ 126
theorem lowTo_zero (s : ByteArray) : LowTo s 0 := fun i hi => absurd hi (Nat.not_lt_zero i)
theorem lowTo_succ (s : ByteArray) (k : Nat) (h : k < s.size) (hb : s[k].toNat ≤ 126) (hl : LowTo s k) : LowTo s (k + 1) := fun i hi => by
  by_cases e : i = k
  · subst e
    have : s.data.toList.getD i 0 = s[i] := by
      have hl : i < s.data.toList.length := by rw [← Lib.size_eq]; exact h
      rw [List.getD, List.getElem?_eq_getElem hl]
      rfl
    rw [this]
    exact hb
  · exact hl i (by omega)
theorem lowTo_all (s : ByteArray) (k : Nat) (h : s.size ≤ k) (hl : LowTo s k) : AllSign s := fun i hi => hl i (by omega)

/-- What impl.Sixteen answers at a text of ASCII. -/
theorem sixteen_low (s : ByteArray) (w : World) (hs : s.size ≤ 2147483647) (h : ¬ (16 < s.size ∧ isSyso s = true)) (ha : AllSign s) (hT : Lib.Utf8Tabs 0 1 w) :
    Calls Tryd.prog 7 #[.string s] w fun e w' => e = .returned (.string ((s ++ blanks (16 - s.size)).extract 0 16)) ∧ Below w.heap.size w w' := by
  refine (sixteen_any s w hs h hT).mono ?_
  rintro e w' ⟨k, h1, h2, h3, rfl, h5⟩
  have hk : k = min 16 s.size := by
    have := h3 (fun i hi => by have := ha i hi; omega)
    omega
  refine ⟨ret_str ?_, h5⟩
  apply ByteArray.ext
  apply Array.ext'
  rw [Lib.extract_data, ByteArray.data_append, ByteArray.data_append, Array.toList_append, Array.toList_append, Lib.extract_data, List.drop_zero, List.drop_zero, Nat.sub_zero, Nat.sub_zero]
  have hl : s.data.toList.length = s.size := (Lib.size_eq s).symm
  have hb : ∀ n, (blanks n).data.toList = List.replicate n 32 := fun n => by simp [blanks]
  rw [hb, hb, List.take_append, List.take_replicate, hl]
  by_cases h16 : s.size ≤ 16
  · rw [show k = s.size by omega, List.take_of_length_le (by omega), List.take_of_length_le (by omega)]
    congr 2
    omega
  · rw [show k = 16 by omega, show 16 - s.size = 0 by omega]
    simp

theorem below_three {w w1 w2 : World} (h1 : Below w.drew.heap.size w.drew w1) (h2 : Below w1.heap.size w1 w2) : Below w.heap.size w w2 :=
  ((Below.refl w.heap.size w).drew.trans h1).trans (h2.mono h1.size)

set_option maxRecDepth 100000 in
set_option maxHeartbeats 400000 in
/-- A text past the bound. -/
theorem exactLaw_great (s : ByteArray) (w : World) (h : 2147483647 < s.size) :
    Calls Tryd.prog 3 #[.string s] w fun e w' => e = .returned (.bool true) ∧ Below w.heap.size w w' := by
  go_enter Tryd.func3, Tryd.ntmps3
  go_wp2
  go_ret
  exact ⟨rfl, Below.refl _ _⟩

set_option maxRecDepth 100000 in
set_option maxHeartbeats 400000 in
/-- A text that ends in ".syso". -/
theorem exactLaw_syso (s : ByteArray) (w : World) (hs : s.size ≤ 2147483647) (h16 : 16 < s.size) (hd : isSyso s = true) :
    Calls Tryd.prog 3 #[.string s] w fun e w' => e = .returned (.bool true) ∧ Below w.heap.size w w' := by
  unfold isSyso at hd
  go_enter Tryd.func3, Tryd.ntmps3
  go_wp2_with (go_at_call 5; refine (heads_any _).mono ?_; rintro e w' ⟨rfl, hb⟩; have HB := Lib.hid hb; clear hb)
  go_ret
  exact ⟨rfl, HB.out⟩

set_option maxRecDepth 100000 in
set_option maxHeartbeats 400000 in
/-- Any other text. -/
theorem exactLaw_plain (s : ByteArray) (w : World) (hs : s.size ≤ 2147483647) (hn : ¬ (16 < s.size ∧ isSyso s = true)) (hT : Lib.Utf8Tabs 0 1 w) :
    Calls Tryd.prog 3 #[.string s] w fun e w' => e = .returned (.bool true) ∧ Below w.heap.size w w' := by
  have hd : 16 < s.size → ((s.extract (s.size - 5) s.size).toList == [46, 115, 121, 115, 111]) = false := fun h16 => by
    cases hx : ((s.extract (s.size - 5) s.size).toList == [46, 115, 121, 115, 111]) with
    | false => rfl
    | true => exact absurd ⟨h16, hx⟩ hn
  obtain ⟨W, hW⟩ : ∃ W, s ++ blanks (16 - s.size) = W := ⟨_, rfl⟩
  have hz : 16 ≤ W.size := by rw [← hW, ByteArray.size_append, blanks_size]; omega
  have c6 : ∀ wx : World, Calls Tryd.prog 6 #[.string s, .int .i64 16] wx fun e w' => e = .returned (.string W) ∧ wx = w' := fun wx => hW ▸ padded_any s wx hs
  have c7 : ∀ wx : World, AllSign s → Lib.Utf8Tabs 0 1 wx → Calls Tryd.prog 7 #[.string s] wx fun e w' => e = .returned (.string (W.extract 0 16)) ∧ Below wx.heap.size wx w' :=
    fun wx ha ht => hW ▸ sixteen_low s wx hs hn ha ht
  have HT := Lib.hid hT
  have C6 := Lib.hid c6
  have C7 := Lib.hid c7
  clear hT hn hW c6 c7
  rcases Nat.lt_or_ge 16 s.size with h16 | h16
  · have hd1 := hd h16
    clear hd
    go_enter Tryd.func3, Tryd.ntmps3
    go_wp2
    go_loop [3] (fun t => ∃ k : Nat, k ≤ s.size ∧ LowTo s k ∧ t = .int .i64 k) (fun t => s.size - (intOf t).toNat)
    case atStart => exact ⟨0, Nat.zero_le _, lowTo_zero s, rfl⟩
    case round =>
      obtain ⟨k, hk, hlow, rfl⟩ := hrel
      have HL := Lib.hid hlow
      clear hlow
      by_cases hlt : k < s.size
      · by_cases hb : 126 < (s[k].toNat : Int)
        · go_wp2_with (go_at_call 5; refine (heads_any _).mono ?_; rintro e w' ⟨rfl, hb⟩; have HB := Lib.hid hb; clear hb)
          go_ret
          exact ⟨rfl, HB.out⟩
        · go_wp2
          go_round
          case rel => exact ⟨k + 1, by omega, lowTo_succ s k hlt (by omega) HL.out, by go_num⟩
          case measure => simp [intOf]; omega
      · have hall : AllSign s := lowTo_all s k (by omega) HL.out
        have HA := Lib.hid hall
        clear hall
        go_wp2_with (go_at_call 6; refine (C6.out _).mono ?_; rintro e w' ⟨rfl, rfl⟩)
        go_region_with (first
          | (go_at_call 7; refine (C7.out _ HA.out ?_).mono ?_; exact Utf8Tabs_below HT.out ((Below.refl _ _).drew); rintro e w1 ⟨rfl, hb⟩; have HB := Lib.hid hb; clear hb)
          | (go_at_call 5; refine (heads_any _).mono ?_; rintro e w2 ⟨rfl, hb2⟩; have HB2 := Lib.hid hb2; clear hb2))
        all_goals go_wp2
        all_goals go_ret
        all_goals exact ⟨rfl, below_three HB.out HB2.out⟩
  · clear hd
    go_enter Tryd.func3, Tryd.ntmps3
    go_wp2
    go_loop [3] (fun t => ∃ k : Nat, k ≤ s.size ∧ LowTo s k ∧ t = .int .i64 k) (fun t => s.size - (intOf t).toNat)
    case atStart => exact ⟨0, Nat.zero_le _, lowTo_zero s, rfl⟩
    case round =>
      obtain ⟨k, hk, hlow, rfl⟩ := hrel
      have HL := Lib.hid hlow
      clear hlow
      by_cases hlt : k < s.size
      · by_cases hb : 126 < (s[k].toNat : Int)
        · go_wp2_with (go_at_call 5; refine (heads_any _).mono ?_; rintro e w' ⟨rfl, hb⟩; have HB := Lib.hid hb; clear hb)
          go_ret
          exact ⟨rfl, HB.out⟩
        · go_wp2
          go_round
          case rel => exact ⟨k + 1, by omega, lowTo_succ s k hlt (by omega) HL.out, by go_num⟩
          case measure => simp [intOf]; omega
      · have hall : AllSign s := lowTo_all s k (by omega) HL.out
        have HA := Lib.hid hall
        clear hall
        go_wp2_with (go_at_call 6; refine (C6.out _).mono ?_; rintro e w' ⟨rfl, rfl⟩)
        go_region_with (first
          | (go_at_call 7; refine (C7.out _ HA.out ?_).mono ?_; exact Utf8Tabs_below HT.out ((Below.refl _ _).drew); rintro e w1 ⟨rfl, hb⟩; have HB := Lib.hid hb; clear hb)
          | (go_at_call 5; refine (heads_any _).mono ?_; rintro e w2 ⟨rfl, hb2⟩; have HB2 := Lib.hid hb2; clear hb2))
        all_goals go_wp2
        all_goals go_ret
        all_goals exact ⟨rfl, below_three HB.out HB2.out⟩
end Go.Proofs.YtmdnjhlbjhokdaaDoor
