/-
  Padding: n blanks, the reference's Padded at the width 16, and the plain facts on cut texts.
-/
import Derived.Test.YtmdnjhlbjhokdaaDoorRows
import Derived.WalkKit
import Derived.WalkSpells
import Derived.WalkLawsBesides
import Derived.Handy
import Derived.Lib.Hide
namespace Go.Proofs.YtmdnjhlbjhokdaaDoor
open Go.RowKit

/-- n blanks. -/
def blanks (n : Nat) : ByteArray := ⟨Array.replicate n 32⟩
theorem blanks_size (n : Nat) : (blanks n).size = n := by simp [blanks, ByteArray.size]
theorem blanks_succ (n : Nat) : blanks n ++ ⟨#[32]⟩ = blanks (n + 1) := by
  apply ByteArray.ext
  rw [ByteArray.data_append]
  apply Array.ext'
  simp [blanks, List.replicate_succ']
theorem blanks_zero (s : ByteArray) : s ++ blanks 0 = s := by
  apply ByteArray.ext
  rw [ByteArray.data_append]
  simp [blanks]
theorem add_blank (s : ByteArray) (n : Nat) : s ++ blanks n ++ ⟨#[32]⟩ = s ++ blanks (n + 1) := by
  rw [ByteArray.append_assoc, blanks_succ]

def strLen : Value → Nat
  | .string x => x.size
  | _ => 0

theorem ret_str {a b : ByteArray} (h : a = b) : Ending.returned (.string a) = .returned (.string b) := by rw [h]

set_option maxRecDepth 100000 in
set_option maxHeartbeats 400000 in
theorem padded_any (s : ByteArray) (w : World) (hs : s.size ≤ 2147483647) :
    Calls Tryd.prog 6 #[.string s, .int .i64 16] w fun e w' => e = .returned (.string (s ++ blanks (16 - s.size))) ∧ w = w' := by
  go_enter Tryd.func6, Tryd.ntmps6
  go_wp2
  go_loop [0] (fun t => ∃ k : Nat, k ≤ 16 - s.size ∧ t = .string (s ++ blanks k)) (fun t => 16 - strLen t)
  case atStart => exact ⟨0, Nat.zero_le _, by rw [blanks_zero]⟩
  case round =>
    obtain ⟨k, hk, rfl⟩ := hrel
    have hz : (s ++ blanks k).size = s.size + k := by rw [ByteArray.size_append, blanks_size]
    have hz1 : (s ++ blanks (k + 1)).size = s.size + (k + 1) := by rw [ByteArray.size_append, blanks_size]
    by_cases hlt : s.size + k < 16
    · go_wp2
      go_round
      case rel => exact ⟨k + 1, by omega, by rw [add_blank]⟩
      case measure => rw [add_blank]; show 16 - (s ++ blanks (k + 1)).size < 16 - (s ++ blanks k).size; omega
    · go_wp2
      go_ret
      exact ⟨ret_str (by rw [show k = 16 - s.size by omega]), rfl⟩
end Go.Proofs.YtmdnjhlbjhokdaaDoor
