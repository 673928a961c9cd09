/- The law of identifiers: it is true of every text. Condition: both tables hold what they were laid with. -/
import Derived.Test.YtkhjenlclpcehaaDoorIk
import Derived.Test.YtkhjenlclpcehaaDoorPm
import Derived.Test.YtkhjenlclpcehaaDoorIa
namespace Go.Proofs.YtkhjenlclpcehaaDoor
open Go.RowKit Go.PlainAid

theorem ident_named (s : ByteArray) (h0 : 0 < s.size) (ha : ∀ c ∈ s.data.toList, c.toNat < 128) : namedB (identS s) s = true := by
  have hbn := bare_need s h0
  unfold identS
  cases hN : needB s with
  | true => rw [if_pos rfl]; exact quote_named s h0 ha (by rw [hbn, hN]; rfl)
  | false => rw [if_neg (by simp)]; exact bare_named s (by rw [hbn, hN]; rfl)
theorem identS_size (s : ByteArray) : (identS s).size ≤ 4 * s.size + 2 := by
  unfold identS
  split
  · exact (quoteS_size s).2
  · omega
theorem ascii_all {s : ByteArray} (h : asciiFrom s 0 = true) : ∀ c ∈ s.data.toList, c.toNat < 128 := by
  intro c hc
  obtain ⟨k, hk, rfl⟩ := List.getElem_of_mem hc
  have hk2 : k < s.size := by rw [sizeL]; exact hk
  have h1 := asciiFrom_bt k 0 h (by omega)
  rw [Nat.zero_add, ← get_bt s k hk2] at h1
  have e : s[k]'hk2 = s.data.toList[k]'hk := rfl
  rw [e] at h1
  omega

set_option maxHeartbeats 1000000 in
set_option maxRecDepth 100000 in
theorem QuoteIdent_c (s : ByteArray) (w : World) (h0 : 0 < s.size) (hs : s.size ≤ 274877906944) (ha : ∀ c ∈ s.data.toList, c.toNat < 128)
    (hp : Lib.TabBelow Tryd.prog w.heap.size w "unicode.properties" .u8 Lib.propertiesTab) (ht : Lib.TabBelow Tryd.prog w.heap.size w "math/bits.deBruijn64tab" .u8 tab64) :
    Calls Tryd.prog 6 #[.string s] w fun e w' => e = .returned (.string (identS s)) ∧ Below w.heap.size w w' := by
  have h1 := Lib.hid (QuoteSQLIdent_c s w h0 hs ha hp ht)
  clear hp ht ha
  go_enter Tryd.func6, Tryd.ntmps6
  go_wp2_with fail
  refine h1.out.mono ?_
  rintro e w' ⟨rfl, hb⟩
  go_wp2
  go_ret
  exact ⟨rfl, hb⟩

set_option maxHeartbeats 4000000 in
set_option maxRecDepth 100000 in
theorem law_c (s : ByteArray) (w : World) (hp : Lib.TabBelow Tryd.prog w.heap.size w "unicode.properties" .u8 Lib.propertiesTab) (ht : Lib.TabBelow Tryd.prog w.heap.size w "math/bits.deBruijn64tab" .u8 tab64) :
    Calls Tryd.prog 3 #[.string s] w fun e w' => e = .returned (.bool true) ∧ Below w.heap.size w w' := by
  by_cases hbig : 1000 < s.size
  · clear hp ht
    go_enter Tryd.func3, Tryd.ntmps3
    go_wp2
    · go_ret
      exact ⟨rfl, Below.refl _ _⟩
    · go_ret
      exact ⟨rfl, Below.refl _ _⟩
  · by_cases h0 : s.size = 0
    · obtain rfl := ba_nil h0
      clear hp ht
      go_enter Tryd.func3, Tryd.ntmps3
      go_wp2
      go_ret
      exact ⟨rfl, Below.refl _ _⟩
    · have hne := ba_some h0
      have hA := Lib.hid (ascii_c s w (by omega))
      cases hAs : asciiFrom s 0 with
      | false =>
        clear hp ht
        go_enter Tryd.func3, Tryd.ntmps3
        go_wp2_with fail
        refine hA.out.mono ?_
        rintro e w' ⟨rfl, rfl⟩
        rw [hAs]
        go_wp2
        go_ret
        exact ⟨rfl, Below.refl _ _⟩
      | true =>
        have hall := ascii_all hAs
        have hQ := Lib.hid (QuoteIdent_c s w (by omega) (by omega) hall hp ht)
        have hnm := Lib.hid (ident_named s (by omega) hall)
        have hz := identS_size s
        clear hp ht hall
        go_enter Tryd.func3, Tryd.ntmps3
        go_wp2_with fail
        refine hA.out.mono ?_
        rintro e w' ⟨rfl, rfl⟩
        rw [hAs]
        go_wp2_with fail
        refine hQ.out.mono ?_
        rintro e w1 ⟨rfl, hb1⟩
        have hNm := Lib.hid (Named_c (identS s) s w1 (by omega) (by omega))
        go_wp2_with fail
        refine hNm.out.mono ?_
        rintro e w2 ⟨rfl, hb2⟩
        rw [hnm.out]
        go_wp2
        go_ret
        exact ⟨rfl, hb1.trans (Joins.below_le hb2 hb1.size)⟩
end Go.Proofs.YtkhjenlclpcehaaDoor
