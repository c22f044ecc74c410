/- But for texts of more than 16 bytes that end in .syso, impl.Sixteen answers sixteen bytes at any text, and what stands ahead of the blanks is a beginning of the text: laws.FnSixteenSize answers true for every text (its own guard lets every text of more than 2147483647 bytes by). Conditions: the two tables of unicode/utf8 hold what Go's own text lays (the card ties that to the program's text; utf8.first is held against a constant of the form). -/
import Derived.Test.YtmdnjhlbjhokdaaDoorLawB
import Derived.Test.YtmdnjhlbjhokdaaDoorTie
import Derived.Test.YtmdnjhlbjhokdaaDoorCards
import Derived.ProofKit
import Derived.PinnedBridge
import Derived.Lay
import Derived.SevenTiedAt
import Derived.Lib.LaidU8
namespace Go.Proofs.YtmdnjhlbjhokdaaDoor
open Go.RowKit Go.Shelf Go.Lib
open Go.ChangeShapes Go.WideShapes Go.ChangeAt
open Go.ChangeMaps (open_string shut_string)

theorem own : ownKnob Tryd.prog.godebug = none := by kernel_rfl

def laidTwo : List (String × DataW Unit) := [("unicode/utf8.acceptRanges", Rows.laid_unicode_utf8_acceptRanges), ("unicode/utf8.first", Rows.laid_unicode_utf8_first)]

theorem accept_eq : (Rows.laid_unicode_utf8_acceptRanges : DataW Unit) = Lib.acceptData := by kernel_rfl
theorem first_eq : (Rows.laid_unicode_utf8_first : DataW Unit) = Lib.firstData := Pinned.utf8First_eq
theorem u8extra : U8Extra Tryd.prog Tryd.lays260_ren := ⟨by kernel_rfl, by kernel_rfl, by kernel_rfl, by kernel_rfl, by kernel_rfl, by kernel_rfl, by kernel_rfl⟩

/-- What the listed variables give the walk. -/
theorem tabs_of_laid {W : World} (hL : laidMetH Tryd.prog laidTwo W) : Lib.Utf8Tabs 0 1 W := by
  rw [MakeChecks.laidMetH_plain _ _ _ (by kernel_rfl)] at hL
  have h3 : VarReads Tryd.prog W "unicode/utf8.first" Lib.firstData := first_eq ▸ Lib.laidMet.reads hL (.tail _ (.head _))
  have h4 : VarReads Tryd.prog W "unicode/utf8.acceptRanges" Lib.acceptData := accept_eq ▸ Lib.laidMet.reads hL (.head _)
  exact utf8Tabs_of_reads (ρ := Tryd.lays260_ren) Tryd.lays260 u8extra h3 h4

/-- laws.FnSixteenSize at every text. -/
theorem sizeLaw_any (s : ByteArray) (w : World) (hT : Lib.Utf8Tabs 0 1 w) :
    Calls Tryd.prog 4 #[.string s] w fun e w' => e = .returned (.bool true) ∧ Below w.heap.size w w' := by
  rcases Nat.lt_or_ge 2147483647 s.size with h | h
  · exact sizeLaw_great s w h
  · by_cases hx : 16 < s.size ∧ isSyso s = true
    · exact sizeLaw_syso s w h hx.1 hx.2
    · exact sizeLaw_plain s w h hx hT

set_option maxRecDepth 100000 in
theorem sizeLaw_lifted (os : Os) (started : os.Started) (H : Type) (enc : TypeId × Value → H) :
    ReturnsInHanded {} Tryd.checked os 4 .any (fun w args => (Rows.fnSixteenSizeSpec.pre enc Tryd.prog Tryd.f4 [] false w args ∧ laidMetH Tryd.prog laidTwo w) ∧ sizedMet enc Tryd.prog Tryd.f4 (OpenSpec.ofChange Rows.fnSixteenSizeSpec) false w args)
      (Rows.fnSixteenSizeSpec.post enc Tryd.prog Tryd.f4 false true false false) := by
  refine returnsInHanded_of_change_and (C := Tryd.checked) (X := fun w _ => laidMetH Tryd.prog laidTwo w) (fun _ _ _ hh h => h.of_heap hh) own started (by kernel_rfl) Tryd.func4
    (ChangeSpec.witness_shaped (enc := enc) (C := Tryd.checked) (os := os) (X := fun w _ => laidMetH Tryd.prog laidTwo w) false (World.laidAll Tryd.prog os laidTwo) #[.string ⟨#[]⟩] 8 (World.laidAll_os _ _ _)
      (World.shaped_of_ZipB (by kernel_rfl) (by kernel_rfl)) (by kernel_rfl) (by kernel_rfl) (by kernel_rfl)
      (by rw [MakeChecks.laidMetH_plain _ _ _ (by kernel_rfl)]; exact laidMet_laidAll _ (by kernel_rfl) (by kernel_rfl))) ?_
  intro W base args ds gs before hval0 hW _ _ hL _
  have hval : ∀ (j : Nat) t v, Tryd.f4.params[j]? = some t → args[j]? = some v → Value.okWide Tryd.prog W .any base t v := hval0
  have hW' := hW
  obtain ⟨p, q, hA0, hV, rfl, _, _⟩ := hW
  have hA : DataW.TrodAll enc Tryd.prog W 0 (fun _ => true) true Tryd.f4.params.toList args.toList ds p := hA0
  rw [Tryd.params4] at hA hval
  obtain ⟨v0, d0, rfl, rfl, h0⟩ := trodAll_one hA
  obtain ⟨rfl, rfl⟩ := trodVars_none hV
  obtain ⟨s, rfl, rfl, rfl, ws⟩ := open_string Tryd.underlying9 (hval 0 9 v0 rfl rfl) h0
  simp only [List.append_nil] at hW'
  refine (sizeLaw_any s W (tabs_of_laid hL)).mono fun e W' ⟨he, hb⟩ => ?_
  subst he
  exact ⟨_, rfl, _, _, _, [], [], [], hW', trodAll_mk1 (shut_bool Tryd.underlying4 _), trodAll_mk1 (shut_string Tryd.underlying9 ws), rfl, hb.frame _, fun h => by cases h⟩

theorem sizeLaw_holds : Rows.FnSixteenSizeSaid :=
  OpenClaim.holds_of_wide 4 Tryd.f4 rfl rfl rfl rfl rfl rfl rfl ⟨rfl, rfl, rfl, rfl, rfl⟩ rfl rfl rfl rfl rfl (by kernel_rfl) Tryd.func4 (by kernel_rfl)
    (of_decide_eq_true (by kernel_rfl)) (by unfold Func.isWrapper; first | (rw [if_pos (by decide +kernel)]; kernel_rfl) | (rw [if_neg (by decide +kernel)]; exact ⟨rfl, rfl⟩))
    (fun os started H enc _ => sizeLaw_lifted os started H enc)

theorem fnSixteenSize_holds : Rows.FnSixteenSizeCardSaid :=
  Claim7.holds_tied_plain_at .later [] [.data, .pinned] true (true, "5905335619bb1bc577a3182b7102d8ac7518e2d286ef489444a3ca4bfb269b35") false
    sizeLaw_holds (fun _ h => by cases h) (by kernel_rfl) (fun _ h => by cases h) fnSixteenSize_row_tie rfl ⟨rfl, rfl⟩ (by kernel_rfl) rfl
    (fun f fn hf hfn => by
      obtain rfl : f = 4 := Option.some.inj ((show Tryd.prog.funcNamed "loop.example/pub-ararchives/laws.FnSixteenSize" = some 4 by kernel_rfl).symm.trans hf) |>.symm
      obtain rfl : fn = Tryd.f4 := (Option.some.inj (Tryd.func4.symm.trans hfn)).symm
      exact ⟨by kernel_rfl, fun j t ht => by
        rw [Tryd.params4] at ht
        have hm : t ∈ [9] := by simpa using Array.mem_of_getElem? ht
        have hall : ([9].all fun u => !Tryd.prog.wantsStandIn u) = true := by kernel_rfl
        exact (show Tryd.prog.wantsStandIn t = false by simpa using List.all_eq_true.1 hall t hm)⟩)
    (by kernel_rfl)
#print axioms fnSixteenSize_holds
end Go.Proofs.YtmdnjhlbjhokdaaDoor
