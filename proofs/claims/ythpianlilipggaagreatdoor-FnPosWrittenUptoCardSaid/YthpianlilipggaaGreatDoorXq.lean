/- The row of the law on what is written of a position (the second form), and its card. Condition: the listed variables hold what the program's text lays them with (tied by the card); the input's bulk is at most 2^20. -/
import Derived.Test.YthpianlilipggaaGreatDoorXp
import Derived.Test.YthpianlilipggaaGreatDoorRows
import Derived.Test.YthpianlilipggaaGreatDoorCards
import Derived.Test.YthpianlilipggaaGreatDoorTie
import Derived.ProofKit
import Derived.LaidMore
import Derived.Lay
import Derived.OpenShut
import Derived.Stop.Joined
import Derived.Stop.LaidErr
import Derived.SevenTiedAt
import Derived.Lib.LaidTab
import Derived.Carry
import Derived.Deep.DeepHandedRow
import Derived.Deep.DeepWitnessRowRef
namespace Go.Proofs.YthpianlilipggaaGreatDoor
open Go.ChangeShapes Go.WideShapes Go.ChangeAt Go.RowKit Go.Stop Go.PlainAid

theorem own : ownKnob Tryz.prog.godebug = none := by kernel_rfl
def laid0 : List (String × DataW Unit) := Rows.fnPosWrittenUptoRow.laid
theorem tiePow : (Rows.laid_internal_strconv_uint64pow10 : DataW Unit) = Lib.tabData .u64 Lib.pow10Tab := by kernel_rfl
theorem tieProp : (Rows.laid_unicode_properties : DataW Unit) = Lib.tabData .u8 Lib.propertiesTab := by kernel_rfl
theorem tabs_of_laid {W : World} (h : laidMetH Tryz.prog laid0 W) : Tabs W := by
  have h' : laidMet Tryz.prog laid0 W := h
  have h1 : laidMet Tryz.prog (("internal/strconv.uint64pow10", Lib.tabData .u64 Lib.pow10Tab) :: laid0.drop 3) W := by
    rw [← tiePow]
    exact laidMet.tail (x := ("math/bits.deBruijn64tab", Rows.laid_math_bits_deBruijn64tab)) (laidMet.tail (x := ("math/bits.deBruijn32tab", Rows.laid_math_bits_deBruijn32tab)) h')
  have h2 : laidMet Tryz.prog (("unicode.properties", Lib.tabData .u8 Lib.propertiesTab) :: laid0.drop 7) W := by
    rw [← tieProp]
    exact laidMet.tail (x := ("unicode.White_Space", Rows.laid_unicode_White_Space)) (laidMet.tail (x := ("strconv.ErrSyntax", Rows.laid_strconv_ErrSyntax)) (laidMet.tail (x := ("strconv.ErrRange", Rows.laid_strconv_ErrRange)) (laidMet.tail (x := ("internal/strconv.uint64pow10", Lib.tabData .u64 Lib.pow10Tab)) h1)))
  exact ⟨Lib.tabBelow_of_tabIs (Lib.tabIs_of_head (g := 2) (t := 133) (e := 5) (n := 256) (by kernel_rfl) (by kernel_rfl) (by kernel_rfl) (by kernel_rfl) (by kernel_rfl) (by kernel_rfl) h2),
    Lib.tabBelow_of_tabIs (Lib.tabIs_of_head (g := 6) (t := 155) (e := 140) (n := 20) (by kernel_rfl) (by kernel_rfl) (by kernel_rfl) (by kernel_rfl) (by kernel_rfl) (by kernel_rfl) h1)⟩

/-- The witness's world. -/
noncomputable def laidWorld (os : Os) : World := (World.holding Tryz.prog os ⟨#[], #[], []⟩).layVars Tryz.prog laid0
theorem laidWorld_os (os : Os) : (laidWorld os).os = os := World.layVars_os _ _ _
theorem plain_met (os : Os) (args : Array Value) (hf : (World.holding Tryz.prog os ⟨#[], #[], []⟩).layFits Tryz.prog laid0 [] = true) (hi : (World.holding Tryz.prog os ⟨#[], #[], []⟩).layIfaces Tryz.prog laid0 (laidWorld os) = true) :
    laidMet Tryz.prog laid0 ((laidWorld os).forCall (fun _ _ => 0) ⟨#[], args, []⟩).memory := by
  have e1 : (laid0.filter fun x => (laid0.map (·.1)).contains x.1) = laid0 := List.filter_eq_self.2 fun x hx => List.contains_iff_mem.2 (List.mem_map.2 ⟨x, hx, rfl⟩)
  have e2 : (laid0.filter fun x => !(laid0.map (·.1)).contains x.1) = [] := List.filter_eq_nil_iff.2 fun x hx => by rw [List.contains_iff_mem.2 (List.mem_map.2 ⟨x, hx, rfl⟩)]; simp
  have h : laidMet Tryz.prog laid0 (laidWorld os) := laidMet_layVars (w0 := World.holding Tryz.prog os ⟨#[], #[], []⟩) (laid0.map (·.1)) [] (by rw [e1]; rfl) (by rw [e1]; exact hf) (by rw [e1]; exact hi) (by rw [e2]; exact LaidIn.none)
  exact h.of_heap (by simp [World.memory, World.forCall, Input.heap])
set_option maxRecDepth 100000 in
theorem laidWorld_met (os : Os) (args : Array Value) : laidMetH Tryz.prog laid0 ((laidWorld os).forCall (fun _ _ => 0) ⟨#[], args, []⟩).memory :=
  plain_met os args (by kernel_rfl) (by kernel_rfl)
/-- The witness's input: a tree of no kind. -/
def wit : Value := .agg #[.string ⟨#[]⟩, .string ⟨#[]⟩, .int .i64 0, .slice none 0 0]
theorem reads (os : Os) {H : Type} (enc : TypeId × Value → H) : ∃ places, DataW.whole enc Tryz.prog ((laidWorld os).forCall (fun _ _ => 0) ⟨#[], #[wit], []⟩).memory Tryz.f3.params.toList Rows.fnPosWrittenSpec.vars false #[wit].toList 8 = some ([.agg [.lit (.string []), .lit (.string []), .lit (.int .i64 0), .nil]], [], places) :=
  ⟨[], by kernel_rfl⟩

set_option maxHeartbeats 1600000 in
set_option maxRecDepth 100000 in
theorem lifted (os : Os) (started : os.Started) (H : Type) (enc : TypeId × Value → H) (F : Stop.Interp) :
    ReturnsInHanded {} Tryz.checked os 3 .any ((Rows.OpenSpec.upto Rows.fnPosWrittenSpec).preRow enc Tryz.prog Tryz.f3 Rows.fnPosWrittenUptoRow.domain false Rows.fnPosWrittenUptoRow.laid) (((Rows.OpenSpec.upto Rows.fnPosWrittenSpec).at F).post enc Tryz.prog Tryz.f3 false true false false) := by
  obtain ⟨places, hx⟩ := reads os enc
  refine returnsInHanded_of_row (C := Tryz.checked) (s := Rows.OpenSpec.upto Rows.fnPosWrittenSpec) own started (by kernel_rfl) Tryz.func3
    (witness_row_atRef (enc := enc) (C := Tryz.checked) false (laidWorld os) #[wit] (laidWorld_os os) (by kernel_rfl) (by kernel_rfl) (by kernel_rfl)
      (OpenSpec.preRow_of_cond 8 hx (by kernel_rfl) (fun k hk => by cases hk; kernel_rfl) (by kernel_rfl) (laidWorld_met os _))) ?_
  intro W base args ds gs before hval hW _ hcond _ hL _ _
  have hk := hcond _ rfl
  have hW' := hW
  obtain ⟨p, q, hA0, hV, rfl, hfz, hnd⟩ := hW
  have hA : DataW.TrodAll enc Tryz.prog W 0 (fun _ => true) true Tryz.f3.params.toList args.toList ds p := hA0
  rw [Tryz.params3] at hA hval
  obtain ⟨v0, d0, rfl, rfl, h0⟩ := trodAll_one hA
  obtain ⟨rfl, rfl⟩ := trodVars_none hV
  have hE := tabs_of_laid hL
  have hlt : ∀ x ∈ p, x.block < W.heap.size := fun x hx => by simpa using hW'.lt x (List.mem_append_left _ hx)
  have h0k := h0
  obtain ⟨fuel, hf⟩ := h0
  obtain ⟨e, v, hcs, hpe, hwt⟩ := open_pe _ fuel _ _ (Nat.le_refl _) hf
  obtain ⟨cs', rfl, _⟩ := okWide_struct Tryz.underlying24 (hval 0 24 v0 rfl rfl)
  obtain rfl : cs' = #[strV e.kind, strV e.name, .int .i64 e.num, v] := by
    apply Array.ext'
    simpa [Value.cells] using hcs
  have hb : Rows.uptoBulkAll ([d0] ++ []) ≤ 1048576 := of_decide_eq_true hk
  simp only [List.append_nil, Rows.uptoBulkAll, Nat.add_zero] at hb
  clear hA0 hf hcs
  refine (posWritten_c e v W (Nat.le_trans hwt hb) hpe hE).mono fun r W' ⟨he, hB⟩ => ?_
  subst he
  refine ⟨_, rfl, _, _, _, [], p, [], hW', ?_, ?_, ?_, hB.frame _, fun h => by cases h⟩
  · exact trodAll_mk1 (shut_bool Tryz.underlying4 true)
  · exact trodAll_mk1 (Below.trod (by kernel_rfl) (by kernel_rfl) (of_decide_eq_true (by kernel_rfl)) h0k hB hlt)
  · rfl

theorem row_holds : Rows.FnPosWrittenUptoSaid :=
  OpenClaim.holds_of_cond 3 Tryz.f3 rfl rfl rfl rfl rfl rfl rfl ⟨rfl, rfl, rfl, rfl, rfl⟩ rfl rfl rfl rfl rfl (by kernel_rfl) Tryz.func3 (by kernel_rfl)
    (of_decide_eq_true (by kernel_rfl)) (by unfold Func.isWrapper; first | (rw [if_pos (by decide +kernel)]; kernel_rfl) | (rw [if_neg (by decide +kernel)]; exact ⟨rfl, rfl⟩))
    (fun os started H enc _ F => by rw [OpenClaim.pre_eq_preRow]; exact lifted os started H enc F)

theorem card_holds : Rows.FnPosWrittenUptoCardSaid :=
  Claim7.holds_tied_plain_at .later [] [.data, .data, .data, .sentinel, .sentinel, .listed, .data, .pinned, .pinned] true (true, "788bdd7fbb370186ef379e5f59692b5b732b0ef80d2721b2b4a991d56d209ed7") true row_holds (fun _ h => by cases h) (by kernel_rfl) (fun _ h => by cases h) fnPosWrittenUpto_row_tie rfl ⟨rfl, rfl⟩ (by kernel_rfl) rfl
    (fun f fn hf hfn => by
      obtain rfl : f = 3 := Option.some.inj ((show Tryz.prog.funcNamed "pub-dabber/laws.FnPosWritten" = some 3 by kernel_rfl).symm.trans hf) |>.symm
      obtain rfl : fn = Tryz.f3 := (Option.some.inj (Tryz.func3.symm.trans hfn)).symm
      exact ⟨by kernel_rfl, fun j t ht => by
        rw [Tryz.params3] at ht
        have hm : t ∈ [24] := by simpa using Array.mem_of_getElem? ht
        have hall : ([24].all fun u => !Tryz.prog.wantsStandIn u) = true := by kernel_rfl
        exact (show Tryz.prog.wantsStandIn t = false by simpa using List.all_eq_true.1 hall t hm)⟩)
    (by kernel_rfl)
#print axioms card_holds
end Go.Proofs.YthpianlilipggaaGreatDoor
