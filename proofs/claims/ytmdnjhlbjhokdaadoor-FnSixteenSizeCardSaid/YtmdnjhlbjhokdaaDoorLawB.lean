/-
  The walk of laws.FnSixteenSize: at every text it answers true.
-/
import Derived.Test.YtmdnjhlbjhokdaaDoorHeads
import Derived.BigQuiet
import Derived.Deep.QuietTactic
namespace Go.Proofs.YtmdnjhlbjhokdaaDoor
open Go.RowKit

/-- T is s's first k bytes, with blanks behind them: what the walk asks of it. -/
structure Padding (s T : ByteArray) (k : Nat) : Prop where
  len : T.size = 16
  k16 : k ≤ 16
  kls : k ≤ s.size
  head : ∀ n, n ≤ k → (T.extract 0 n).toList = (s.extract 0 n).toList
  tail : ∀ m, k ≤ m → (h : m < T.size) → T[m] = 32

theorem padding_of (s : ByteArray) (k : Nat) (h1 : k ≤ 16) (h2 : k ≤ s.size) : Padding s (s.extract 0 k ++ blanks (16 - k)) k := by
  have hz := cut_size s k h2
  have hl : s.data.toList.length = s.size := (Lib.size_eq s).symm
  have hb : ∀ n, (blanks n).data.toList = List.replicate n 32 := fun n => by simp [blanks]
  refine ⟨by rw [ByteArray.size_append, hz, blanks_size]; omega, h1, h2, fun n hn => ?_, fun m hm h => ?_⟩
  · rw [Lib.extract_toList, Lib.extract_toList, ByteArray.data_append, Array.toList_append, Lib.extract_data]
    simp only [List.drop_zero, Nat.sub_zero]
    rw [List.take_append_of_le_length (by rw [List.length_take]; omega), List.take_take, Nat.min_eq_left hn]
  · have hm16 : m < 16 := by
      rw [ByteArray.size_append, hz, blanks_size] at h
      omega
    have e : (s.extract 0 k ++ blanks (16 - k)).data.toList[m]? = some 32 := by
      rw [ByteArray.data_append, Array.toList_append, Lib.extract_data, hb, List.getElem?_append_right (by rw [List.length_take, List.length_drop]; omega), List.getElem?_replicate, if_pos (by rw [List.length_take, List.length_drop]; omega)]
    have e2 : (s.extract 0 k ++ blanks (16 - k)).data.toList[m]? = some ((s.extract 0 k ++ blanks (16 - k))[m]) := by
      rw [Array.getElem?_toList]
      exact Array.getElem?_eq_getElem h
    exact Option.some.inj (e2.symm.trans e)

theorem below_drewN {B : Nat} {w wr : World} (h : Below B w wr) (n : Nat) : Below B w (wr.drewN n) := ⟨h.os, h.tape, h.output, h.size, h.block⟩

theorem below_quiet {w wr w2 : World} {n : Nat} (h1 : Below w.heap.size w wr) (h2 : Below (wr.drewN n).heap.size (wr.drewN n) w2) : Below w.heap.size w w2 :=
  (below_drewN h1 n).trans (h2.mono h1.size)

/-- Where the two heads part, one is past the copied part. -/
theorem tail_reach {s T : ByteArray} {k n : Nat} (h : Padding s T k) (hq : ((T.extract 0 n).toList == (s.extract 0 n).toList) = false) : k < n := by
  rcases Nat.lt_or_ge k n with hl | hg
  · exact hl
  · rw [h.head n hg] at hq
    simp at hq

set_option maxRecDepth 100000 in
set_option maxHeartbeats 400000 in
/-- A text past the bound. -/
theorem sizeLaw_great (s : ByteArray) (w : World) (h : 2147483647 < s.size) :
    Calls Tryd.prog 4 #[.string s] w fun e w' => e = .returned (.bool true) ∧ Below w.heap.size w w' := by
  go_enter Tryd.func4, Tryd.ntmps4
  go_wp2
  go_ret
  exact ⟨rfl, Below.refl _ _⟩

set_option maxRecDepth 100000 in
set_option maxHeartbeats 400000 in
/-- A text that ends in ".syso". -/
theorem sizeLaw_syso (s : ByteArray) (w : World) (hs : s.size ≤ 2147483647) (h16 : 16 < s.size) (hd : isSyso s = true) :
    Calls Tryd.prog 4 #[.string s] w fun e w' => e = .returned (.bool true) ∧ Below w.heap.size w w' := by
  unfold isSyso at hd
  go_enter Tryd.func4, Tryd.ntmps4
  go_wp2_with (go_at_call 5; refine (heads_any _).mono ?_; rintro e w' ⟨rfl, hb⟩; have HB := Lib.hid hb; clear hb)
  go_ret
  exact ⟨rfl, HB.out⟩

set_option maxRecDepth 100000 in
set_option maxHeartbeats 400000 in
/-- Any other text. -/
theorem sizeLaw_plain (s : ByteArray) (w : World) (hs : s.size ≤ 2147483647) (hn : ¬ (16 < s.size ∧ isSyso s = true)) (hT : Lib.Utf8Tabs 0 1 w) :
    Calls Tryd.prog 4 #[.string s] w fun e w' => e = .returned (.bool true) ∧ Below w.heap.size w w' := by
  have hd : 16 < s.size → ((s.extract (s.size - 5) s.size).toList == [46, 115, 121, 115, 111]) = false := fun h16 => by
    cases hx : ((s.extract (s.size - 5) s.size).toList == [46, 115, 121, 115, 111]) with
    | false => rfl
    | true => exact absurd ⟨h16, hx⟩ hn
  have c7 := sixteen_any s w hs hn hT
  have C7 := Lib.hid c7
  clear hT hn c7
  rcases Nat.lt_or_ge 16 s.size with h16 | h16
  · have hd1 := hd h16
    clear hd
    go_enter Tryd.func4, Tryd.ntmps4
    go_wp2_with (go_at_call 7; refine C7.out.mono ?_; rintro e w1 ⟨k, h1, h2, h3, rfl, h5⟩; have HB := Lib.hid h5; have pd := padding_of s k h1 h2; clear h3 h5; generalize s.extract 0 k ++ blanks (16 - k) = T at *; have hz := pd.len; have HP := Lib.hid pd; clear pd)
    go_loopw [4] (fun t wr => ∃ n : Nat, k ≤ n ∧ n ≤ 16 ∧ t = .int .i64 n ∧ Below w.heap.size w wr) (fun t _ => (intOf t).toNat)
    case atStart => exact ⟨16, h1, Nat.le_refl _, rfl, HB.out⟩
    case round =>
      obtain ⟨n, hk, hn, rfl, hb⟩ := hrel
      have HW := Lib.hid hb
      clear hb
      by_cases hn0 : 0 < n
      · have q0 : decide ((0 : Int) < (n : Int)) = true := by simpa using hn0
        by_cases hns : s.size < n
        · omega
        · have q1 : decide (s.size < n) = false := by simpa using hns
          have q2 : decide ((s.size : Int) < (n : Int)) = false := by simpa using hns
          have q3 : n ≤ s.size := by omega
          have q4 : n ≤ T.size := by omega
          cases hq : ((T.extract 0 n).toList == (s.extract 0 n).toList) with
          | true =>
            go_wp2
            go_quiet (fail)
            go_wp2_with (go_at_call 5; refine (heads_any _).mono ?_; rintro e w2 ⟨rfl, hb2⟩; have HB2 := Lib.hid hb2; clear hb2)
            go_ret
            exact ⟨rfl, below_quiet HW.out HB2.out⟩
          | false =>
            have hkn : k < n := tail_reach HP.out hq
            go_wp2
            go_quiet (fail)
            go_wp2
            · exfalso
              have hx : (((T[n - 1]'(by omega)).toNat : Int) != 32) = true := by assumption
              rw [HP.out.tail (n - 1) (by omega) (by omega)] at hx
              exact absurd hx (by decide)
            · go_roundw
              case rel => exact ⟨n - 1, by omega, by omega, by go_num, below_drewN HW.out nq⟩
              case measure => simp [intOf]; omega
      · have q0 : decide ((0 : Int) < (n : Int)) = false := by simpa using hn0
        go_wp2
        go_quiet (fail)
        go_wp2_with (go_at_call 5; refine (heads_any _).mono ?_; rintro e w2 ⟨rfl, hb2⟩; have HB2 := Lib.hid hb2; clear hb2)
        go_ret
        exact ⟨rfl, below_quiet HW.out HB2.out⟩
  · clear hd
    go_enter Tryd.func4, Tryd.ntmps4
    go_wp2_with (go_at_call 7; refine C7.out.mono ?_; rintro e w1 ⟨k, h1, h2, h3, rfl, h5⟩; have HB := Lib.hid h5; have pd := padding_of s k h1 h2; clear h3 h5; generalize s.extract 0 k ++ blanks (16 - k) = T at *; have hz := pd.len; have HP := Lib.hid pd; clear pd)
    go_loopw [4] (fun t wr => ∃ n : Nat, k ≤ n ∧ n ≤ 16 ∧ t = .int .i64 n ∧ Below w.heap.size w wr) (fun t _ => (intOf t).toNat)
    case atStart => exact ⟨16, h1, Nat.le_refl _, rfl, HB.out⟩
    case round =>
      obtain ⟨n, hk, hn, rfl, hb⟩ := hrel
      have HW := Lib.hid hb
      clear hb
      by_cases hn0 : 0 < n
      · have q0 : decide ((0 : Int) < (n : Int)) = true := by simpa using hn0
        by_cases hns : s.size < n
        · have q1 : decide (s.size < n) = true := by simpa using hns
          have q2 : decide ((s.size : Int) < (n : Int)) = true := by simpa using hns
          go_wp2
          go_quiet (fail)
          go_wp2
          · exfalso
            have hx : (((T[n - 1]'(by omega)).toNat : Int) != 32) = true := by assumption
            rw [HP.out.tail (n - 1) (by omega) (by omega)] at hx
            exact absurd hx (by decide)
          · go_roundw
            case rel => exact ⟨n - 1, by omega, by omega, by go_num, below_drewN HW.out nq⟩
            case measure => simp [intOf]; omega
        · have q1 : decide (s.size < n) = false := by simpa using hns
          have q2 : decide ((s.size : Int) < (n : Int)) = false := by simpa using hns
          have q3 : n ≤ s.size := by omega
          have q4 : n ≤ T.size := by omega
          cases hq : ((T.extract 0 n).toList == (s.extract 0 n).toList) with
          | true =>
            go_wp2
            go_quiet (fail)
            go_wp2_with (go_at_call 5; refine (heads_any _).mono ?_; rintro e w2 ⟨rfl, hb2⟩; have HB2 := Lib.hid hb2; clear hb2)
            go_ret
            exact ⟨rfl, below_quiet HW.out HB2.out⟩
          | false =>
            have hkn : k < n := tail_reach HP.out hq
            go_wp2
            go_quiet (fail)
            go_wp2
            · exfalso
              have hx : (((T[n - 1]'(by omega)).toNat : Int) != 32) = true := by assumption
              rw [HP.out.tail (n - 1) (by omega) (by omega)] at hx
              exact absurd hx (by decide)
            · go_roundw
              case rel => exact ⟨n - 1, by omega, by omega, by go_num, below_drewN HW.out nq⟩
              case measure => simp [intOf]; omega
      · have q0 : decide ((0 : Int) < (n : Int)) = false := by simpa using hn0
        go_wp2
        go_quiet (fail)
        go_wp2_with (go_at_call 5; refine (heads_any _).mono ?_; rintro e w2 ⟨rfl, hb2⟩; have HB2 := Lib.hid hb2; clear hb2)
        go_ret
        exact ⟨rfl, below_quiet HW.out HB2.out⟩
end Go.Proofs.YtmdnjhlbjhokdaaDoor
