/- What package token writes for a name: the name as it is, or between backquotes. Condition: the name is not empty, at most 2^38 bytes long, each below 128; both tables hold what they were laid with. -/
import Derived.Test.YtkhjenlclpcehaaDoorIj
import Derived.Test.YtkhjenlclpcehaaDoorIe
namespace Go.Proofs.YtkhjenlclpcehaaDoor
open Go.RowKit Go.PlainAid

/-- What is written for a name. -/
def identS (s : ByteArray) : ByteArray := if needB s = true then quoteS s else s

theorem tab_later {n : String} {k : IntKind} {zs : List Int} {w w1 : World} (h : Lib.TabBelow Tryd.prog w.heap.size w n k zs) (hb : Below w.heap.size w w1) : Lib.TabBelow Tryd.prog w1.heap.size w1 n k zs :=
  fun W hW => h W (hb.trans (Joins.below_le hW hb.size))

set_option maxHeartbeats 4000000 in
set_option maxRecDepth 100000 in
theorem QuoteSQLIdent_c (s : ByteArray) (w : World) (h0 : 0 < s.size) (hs : s.size ≤ 274877906944) (ha : ∀ c ∈ s.data.toList, c.toNat < 128)
    (hp : Lib.TabBelow Tryd.prog w.heap.size w "unicode.properties" .u8 Lib.propertiesTab) (ht : Lib.TabBelow Tryd.prog w.heap.size w "math/bits.deBruijn64tab" .u8 tab64) :
    Calls Tryd.prog 9 #[.string s] w fun e w' => e = .returned (.string (identS s)) ∧ Below w.heap.size w w' := by
  have hn := Lib.hid (needQuote_c s w hs h0)
  have hp := Lib.hid hp
  have ht := Lib.hid ht
  have ha := Lib.hid ha
  go_enter Tryd.func9, Tryd.ntmps9
  go_wp2_with fail
  refine hn.out.mono ?_
  rintro e w1 ⟨rfl, hb1⟩
  clear hn
  have hp1 := Lib.hid (tab_later hp.out hb1)
  have ht1 := Lib.hid (tab_later ht.out hb1)
  clear hp ht
  cases hN : needB s with
  | false =>
    go_wp2_with fail
    go_ret
    exact ⟨ret_str (by unfold identS; rw [hN]; rfl), hb1⟩
  | true =>
    have hI0 := Lib.fresh_isBuffer 42 5 w1
    obtain ⟨w2, hw2⟩ : ∃ w2, w1.alloc (.cells #[.slice none 0 0, .int .i64 0, .int .i8 0] 42) = w2 := ⟨_, rfl⟩
    have hb2 : Below w1.heap.size w1 w2 := by rw [← hw2]; exact (Below.refl _ _).alloc (Nat.le_refl _) _
    rw [hw2] at hI0
    obtain ⟨B, hB⟩ : ∃ B, w1.heap.size = B := ⟨_, rfl⟩
    rw [hB] at hI0 hb2 hp1 ht1
    have h1 := Tryd.Buffer_WriteByte_k B B (Lib.byteCells []) 96 w2 hI0 (by rw [← hB]; have := hb2.size; omega) (Lib.byteCells_one _) (by rw [Lib.byteCells_length]; decide)
    go_wp2_with fail
    refine h1.mono ?_
    rintro e w3 ⟨rfl, hI3, hb3, _⟩
    clear h1
    have hB2 : B ≤ w2.heap.size := by have := hb2.size; omega
    have hB3 : B ≤ w3.heap.size := Nat.le_trans hB2 hb3.size
    have hb23 := hb2.trans hb3
    have h2 := Lib.hid (content_c s B B [96] w3 hs ha.out (by decide) hI3 hB3 (fun W hW => hp1.out W (hb23.trans hW)) (fun W hW => ht1.out W (hb23.trans hW)))
    go_wp2_with fail
    refine h2.out.mono ?_
    rintro e w4 ⟨rfl, hI4, hb4⟩
    clear h2
    have hlen := (outQ_all s.data.toList).2
    have hsz := sizeL s
    have h3 := Lib.hid (Tryd.Buffer_WriteByte_k B B _ 96 w4 hI4 (Nat.le_trans hB3 hb4.size) (Lib.byteCells_one _) (by rw [Lib.byteCells_length, List.length_append]; show 1 + _ + 1 ≤ _; omega))
    go_wp2_with fail
    refine h3.out.mono ?_
    rintro e w5 ⟨rfl, hI5, hb5, _⟩
    clear h3
    have hI6 : Lib.IsBuffer 42 5 B B (Lib.byteCells (quoteL s.data.toList)) w5 := by
      have e : Lib.byteCells (quoteL s.data.toList) = Lib.byteCells ([96] ++ s.data.toList.flatMap outQ) ++ [.int .u8 96] := by
        unfold quoteL
        rw [show (96 :: (s.data.toList.flatMap outQ ++ [96]) : List UInt8) = ([96] ++ s.data.toList.flatMap outQ) ++ [96] by simp, Lib.byteCells_append]
        rfl
      rw [e]; exact hI5
    have h4 := Lib.hid (Tryd.Buffer_String B B (quoteL s.data.toList) w5 hI6)
    go_wp2_with fail
    refine h4.out.mono ?_
    rintro e w6 ⟨rfl, n, rfl⟩
    go_wp2_with fail
    go_ret
    refine ⟨ret_str (by unfold identS; rw [hN]; rfl), hb1.trans (Joins.below_le (((hb23.trans hb4).trans hb5).trans ⟨rfl, rfl, rfl, Nat.le_refl _, fun _ _ => rfl⟩) ?_)⟩
    rw [← hB]; exact hb1.size
end Go.Proofs.YtkhjenlclpcehaaDoor
