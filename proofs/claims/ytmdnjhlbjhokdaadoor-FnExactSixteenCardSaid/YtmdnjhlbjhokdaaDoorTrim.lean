/-
  bytes.TrimRight at one blank, trimSpace, TrimSpace and impl.Trim at the text "a ": the answer is "a"; what lay in memory stays as it was.
-/
import Derived.Test.YtmdnjhlbjhokdaaDoorRows
import Derived.WalkKit
import Derived.WalkSpells
import Derived.WalkLawsBesides
import Derived.Handy
import Derived.Lib.Hide
namespace Go.Proofs.YtmdnjhlbjhokdaaDoor
open Go.RowKit

set_option maxHeartbeats 400000 in
theorem trimByte_two (b cap : Nat) (w : World) (hcap : 2 ≤ cap) (hmax : cap ≤ 9223372036854775807)
    (h0 : w.cell? ⟨b, 0, none⟩ = some (.int .u8 97)) (h1 : w.cell? ⟨b, 1, none⟩ = some (.int .u8 32)) :
    Calls Tryd.prog 19 #[.slice (some ⟨b, 0, none⟩) 2 cap, .int .u8 32] w fun e w' => e = .returned (.slice (some ⟨b, 0, none⟩) 1 cap) ∧ w = w' := by
  go_enter Tryd.func19, Tryd.ntmps19
  go_wp2
  refine wp_loop_rounds 3 ?_
  rw [rounds_succ]
  go_wp2
  rw [rounds_succ]
  go_wp2
  go_ret
  exact ⟨rfl, rfl⟩

/-- The text "a ". -/
def aBlank : ByteArray := ⟨#[97, 32]⟩
/-- The text "a". -/
def justA : ByteArray := ⟨#[97]⟩

set_option maxRecDepth 100000 in
set_option maxHeartbeats 400000 in
theorem trimRight_two (b cap : Nat) (w : World) (hcap : 2 ≤ cap) (hmax : cap ≤ 9223372036854775807)
    (h0 : w.cell? ⟨b, 0, none⟩ = some (.int .u8 97)) (h1 : w.cell? ⟨b, 1, none⟩ = some (.int .u8 32)) :
    Calls Tryd.prog 15 #[.slice (some ⟨b, 0, none⟩) 2 cap, .string ⟨#[32]⟩] w fun e w' => e = .returned (.slice (some ⟨b, 0, none⟩) 1 cap) ∧ w = w' := by
  go_enter Tryd.func15, Tryd.ntmps15
  go_wp2_with (go_at_call 19; refine (trimByte_two b cap w hcap hmax h0 h1).mono ?_; rintro e w' ⟨rfl, rfl⟩)
  go_ret
  exact ⟨rfl, rfl⟩

set_option maxHeartbeats 400000 in
theorem trimSpace_two (b cap : Nat) (w : World) (hcap : 2 ≤ cap) (hmax : cap ≤ 9223372036854775807)
    (h0 : w.cell? ⟨b, 0, none⟩ = some (.int .u8 97)) (h1 : w.cell? ⟨b, 1, none⟩ = some (.int .u8 32)) :
    Calls Tryd.prog 12 #[.slice (some ⟨b, 0, none⟩) 2 cap] w fun e w' => e = .returned (.string justA) ∧ w = w' := by
  have hback := run_convert_bytes_back (P := Tryd.prog) w 27 9 5 ⟨b, 0, none⟩ cap [97] Tryd.underlying27 Tryd.underlying5 Tryd.underlying9
    (fun j hj => by
      have : j = 0 := by simpa using hj
      subst this
      exact h0)
  have hr : (convert 27 9 (.slice (some ⟨b, 0, none⟩) 1 cap)).run Tryd.prog w = .ok (.string justA) w := hback
  clear hback
  go_enter Tryd.func12, Tryd.ntmps12
  go_wp2_with (go_at_call 15; refine (trimRight_two b cap w hcap hmax h0 h1).mono ?_; rintro e w' ⟨rfl, rfl⟩)
  go_ret
  exact ⟨rfl, rfl⟩

set_option maxHeartbeats 400000 in
theorem trimSpaceX_two (b cap : Nat) (w : World) (hcap : 2 ≤ cap) (hmax : cap ≤ 9223372036854775807)
    (h0 : w.cell? ⟨b, 0, none⟩ = some (.int .u8 97)) (h1 : w.cell? ⟨b, 1, none⟩ = some (.int .u8 32)) :
    Calls Tryd.prog 10 #[.slice (some ⟨b, 0, none⟩) 2 cap] w fun e w' => e = .returned (.string justA) ∧ w = w' := by
  go_enter Tryd.func10, Tryd.ntmps10
  go_wp2_with (go_at_call 12; refine (trimSpace_two b cap w hcap hmax h0 h1).mono ?_; rintro e w' ⟨rfl, rfl⟩)
  go_ret
  exact ⟨rfl, rfl⟩

set_option maxHeartbeats 400000 in
theorem trim_aBlank (w : World) :
    Calls Tryd.prog 8 #[.string ⟨#[97, 32]⟩] w fun e w' => e = .returned (.string justA) ∧ Below w.heap.size w w' := by
  have hconv := run_bytes_of_string (P := Tryd.prog) w 9 27 5 aBlank Tryd.underlying9 Tryd.underlying27 Tryd.underlying5
  have hge := grownCap_ge w aBlank.size 0 5
  obtain ⟨cap, hcap⟩ : ∃ cap, grownCap w aBlank.size 0 5 = cap := ⟨_, rfl⟩
  rw [hcap] at hconv hge
  have c0 : (bytesRow aBlank cap)[0]? = some (.int .u8 97) := bytesRow_at aBlank cap 0 (by decide)
  have c1 : (bytesRow aBlank cap)[1]? = some (.int .u8 32) := bytesRow_at aBlank cap 1 (by decide)
  obtain ⟨C, hC⟩ : ∃ C, bytesRow aBlank cap = C := ⟨_, rfl⟩
  rw [hC] at hconv c0 c1
  have hcl : cap ≤ 9223372036854775807 := by
    have := grownCap_le_maxLen w aBlank.size 0 5 (by decide)
    rw [hcap] at this
    exact this
  have hz : aBlank.size = 2 := rfl
  rw [hz] at hconv hge
  have hcv : (convert 9 27 (.string ⟨#[97, 32]⟩)).run Tryd.prog w = .ok (.slice (some ⟨w.heap.size, 0, none⟩) 2 cap) (w.alloc (.cells C 5 (C.size, C.size + 1))).drew := hconv
  have k0 : (w.alloc (.cells C 5 (C.size, C.size + 1))).cell? ⟨w.heap.size, 0, none⟩ = some (.int .u8 97) := by rw [World.cell?_alloc_mark]; exact c0
  have k1 : (w.alloc (.cells C 5 (C.size, C.size + 1))).cell? ⟨w.heap.size, 1, none⟩ = some (.int .u8 32) := by rw [World.cell?_alloc_mark]; exact c1
  have bel : Below w.heap.size w (w.alloc (.cells C 5 (C.size, C.size + 1))).drew := ((Below.refl _ _).alloc (Nat.le_refl _) _).drew
  have K := trimSpaceX_two w.heap.size cap (w.alloc (.cells C 5 (C.size, C.size + 1))).drew hge hcl (by simpa using k0) (by simpa using k1)
  clear hconv hC c0 c1 hcap hz
  have HB := Lib.hid bel
  have HK := Lib.hid K
  clear bel K k0 k1
  go_enter Tryd.func8, Tryd.ntmps8
  go_wp2_with (go_at_call 10; refine HK.out.mono ?_; rintro e w' ⟨rfl, rfl⟩)
  go_ret
  exact ⟨rfl, HB.out⟩
end Go.Proofs.YtmdnjhlbjhokdaaDoor
