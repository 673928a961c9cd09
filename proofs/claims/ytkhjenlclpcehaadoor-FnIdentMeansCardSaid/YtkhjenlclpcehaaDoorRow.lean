/- The row of the law of identifiers, and its card. Condition: the listed variables hold what the program's text lays them with (tied by the card). -/
import Derived.Test.YtkhjenlclpcehaaDoorIl
import Derived.Test.YtkhjenlclpcehaaDoorRows
import Derived.Test.YtkhjenlclpcehaaDoorCards
import Derived.Test.YtkhjenlclpcehaaDoorTie
import Derived.ProofKit
import Derived.LaidMore
import Derived.Lay
import Derived.OpenShut
import Derived.Stop.Joined
import Derived.Stop.LaidErr
import Derived.SevenTiedAt
namespace Go.Proofs.YtkhjenlclpcehaaDoor
open Go.ChangeShapes Go.WideShapes Go.ChangeAt Go.RowKit Go.Stop
open Go.ChangeMaps (open_string shut_string)

theorem own : ownKnob Tryd.prog.godebug = none := by kernel_rfl
def laid0 : List (String × DataW Unit) := Rows.fnIdentMeansRow.laid
theorem tie64 : (Rows.laid_math_bits_deBruijn64tab : DataW Unit) = Lib.tabData .u8 tab64 := by kernel_rfl
theorem tieProps : (Rows.laid_unicode_properties : DataW Unit) = Lib.tabData .u8 Lib.propertiesTab := by kernel_rfl

theorem tabs_of_laid {W : World} (h : laidMetH Tryd.prog laid0 W) : Lib.TabIs Tryd.prog W "math/bits.deBruijn64tab" .u8 tab64 ∧ Lib.TabIs Tryd.prog W "unicode.properties" .u8 Lib.propertiesTab := by
  rw [MakeChecks.laidMetH_plain _ _ _ (by kernel_rfl)] at h
  have h1 : laidMet Tryd.prog (("math/bits.deBruijn64tab", Lib.tabData .u8 tab64) :: laid0.drop 2) W := by
    rw [← tie64]
    exact laidMet.tail (x := ("math/bits.deBruijn32tab", Rows.laid_math_bits_deBruijn32tab)) h
  have h2 : laidMet Tryd.prog (("unicode.properties", Lib.tabData .u8 Lib.propertiesTab) :: laid0.drop 4) W := by
    rw [← tieProps]
    exact laidMet.tail (x := ("internal/strconv.uint64pow10", Rows.laid_internal_strconv_uint64pow10)) (laidMet.tail (x := ("math/bits.deBruijn64tab", Rows.laid_math_bits_deBruijn64tab)) (laidMet.tail (x := ("math/bits.deBruijn32tab", Rows.laid_math_bits_deBruijn32tab)) h))
  exact ⟨Lib.tabIs_of_head (g := 5) (t := 105) (e := 5) (n := 64) (by kernel_rfl) (by kernel_rfl) (by kernel_rfl) (by kernel_rfl) (by kernel_rfl) (by kernel_rfl) h1,
    Lib.tabIs_of_head (g := 1) (t := 72) (e := 5) (n := 256) (by kernel_rfl) (by kernel_rfl) (by kernel_rfl) (by kernel_rfl) (by kernel_rfl) (by kernel_rfl) h2⟩

theorem tab_below {n : String} {g : Nat} {k : IntKind} {zs : List Int} {W : World} (hg : Tryd.prog.globalNamed n = some g) (h : Lib.TabIs Tryd.prog W n k zs) : Lib.TabBelow Tryd.prog W.heap.size W n k zs :=
  fun _ hb => Joins.tab_stays hg h hb (Nat.le_refl _)

set_option maxHeartbeats 1600000 in
set_option maxRecDepth 100000 in
theorem lifted (os : Os) (started : os.Started) (H : Type) (enc : TypeId × Value → H) :
    ReturnsInHanded {} Tryd.checked os 3 .any (fun w args => (Rows.fnIdentMeansSpec.pre enc Tryd.prog Tryd.f3 [] false w args ∧ laidMetH Tryd.prog laid0 w) ∧ sizedMet enc Tryd.prog Tryd.f3 (OpenSpec.ofChange Rows.fnIdentMeansSpec) false w args)
      (Rows.fnIdentMeansSpec.post enc Tryd.prog Tryd.f3 false true false false) := by
  refine returnsInHanded_of_change_and (C := Tryd.checked) (X := fun w _ => laidMetH Tryd.prog laid0 w) (fun _ _ _ hh h => h.of_heap hh) own started (by kernel_rfl) Tryd.func3
    (ChangeSpec.witness_shaped (enc := enc) (C := Tryd.checked) (os := os) (X := fun w _ => laidMetH Tryd.prog laid0 w) false (World.laidAll Tryd.prog os laid0) #[.string ⟨#[]⟩] 8 (World.laidAll_os _ _ _)
      (World.shaped_of_ZipB (by kernel_rfl) (by kernel_rfl)) (by kernel_rfl) (by kernel_rfl) (by kernel_rfl)
      (by rw [MakeChecks.laidMetH_plain _ _ _ (by kernel_rfl)]; exact laidMet_laidAll _ (by kernel_rfl) (by kernel_rfl))) ?_
  intro W base args ds gs before hval0 hW _ _ hL _
  have hval : ∀ (j : Nat) t v, Tryd.f3.params[j]? = some t → args[j]? = some v → Value.okWide Tryd.prog W .any base t v := hval0
  have hW' := hW
  obtain ⟨p, q, hA0, hV, rfl, _, _⟩ := hW
  have hA : DataW.TrodAll enc Tryd.prog W 0 (fun _ => true) true Tryd.f3.params.toList args.toList ds p := hA0
  rw [Tryd.params3] at hA hval
  obtain ⟨v0, d0, rfl, rfl, h0⟩ := trodAll_one hA
  obtain ⟨rfl, rfl⟩ := trodVars_none hV
  obtain ⟨s, rfl, rfl, rfl, ws⟩ := open_string Tryd.underlying9 (hval 0 9 v0 rfl rfl) h0
  obtain ⟨t1, t2⟩ := tabs_of_laid hL
  clear hA0 hval0
  simp only [List.append_nil] at hW'
  refine (law_c s W (tab_below (g := 1) (by kernel_rfl) t2) (tab_below (g := 5) (by kernel_rfl) t1)).mono fun e W' ⟨he, hB⟩ => ?_
  subst he
  refine ⟨_, rfl, _, _, _, [], [], [], hW', ?_, ?_, ?_, hB.frame _, fun h => by cases h⟩
  · exact trodAll_mk1 (shut_bool Tryd.underlying4 true)
  · exact trodAll_mk1 (shut_string Tryd.underlying9 ws)
  · rfl

theorem row_holds : Rows.FnIdentMeansSaid :=
  OpenClaim.holds_of_wide 3 Tryd.f3 rfl rfl rfl rfl rfl rfl rfl ⟨rfl, rfl, rfl, rfl, rfl⟩ rfl rfl rfl rfl rfl (by kernel_rfl) Tryd.func3 (by kernel_rfl)
    (of_decide_eq_true (by kernel_rfl)) (by unfold Func.isWrapper; first | (rw [if_pos (by decide +kernel)]; kernel_rfl) | (rw [if_neg (by decide +kernel)]; exact ⟨rfl, rfl⟩))
    (fun os started H enc _ => lifted os started H enc)

theorem card_holds : Rows.FnIdentMeansCardSaid :=
  Claim7.holds_tied_plain_at .later [] [.data, .data, .data, .data, .sentinel] true (true, "5aa7ecda6b9357c9084742df992cc1bde25b07e361ace726a263159915a77e09") false row_holds (fun _ h => by cases h) (by kernel_rfl) (fun _ h => by cases h) fnIdentMeans_row_tie rfl ⟨rfl, rfl⟩ (by kernel_rfl) rfl
    (fun f fn hf hfn => by
      obtain rfl : f = 3 := Option.some.inj ((show Tryd.prog.funcNamed "pub-dabber/laws.FnIdentMeans" = some 3 by kernel_rfl).symm.trans hf) |>.symm
      obtain rfl : fn = Tryd.f3 := (Option.some.inj (Tryd.func3.symm.trans hfn)).symm
      exact ⟨by kernel_rfl, fun j t ht => by
        rw [Tryd.params3] at ht
        have hm : t ∈ [9] := by simpa using Array.mem_of_getElem? ht
        have hall : ([9].all fun u => !Tryd.prog.wantsStandIn u) = true := by kernel_rfl
        exact (show Tryd.prog.wantsStandIn t = false by simpa using List.all_eq_true.1 hall t hm)⟩)
    (by kernel_rfl)
#print axioms card_holds
end Go.Proofs.YtkhjenlclpcehaaDoor
