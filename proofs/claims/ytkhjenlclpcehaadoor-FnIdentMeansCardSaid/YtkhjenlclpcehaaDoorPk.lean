/- A text cut at its blanks. No condition. -/
import Derived.Test.YtkhjenlclpcehaaDoorPb
namespace Go.Proofs.YtkhjenlclpcehaaDoor
open Go.PlainAid

def segs : List UInt8 → List (List UInt8)
  | [] => [[]]
  | c :: t => if c = 32 then [] :: segs t else match segs t with | [] => [[c]] | h :: r => (c :: h) :: r
theorem segs_head : ∀ (l b : List UInt8), 32 ∉ l → segs (l ++ 32 :: b) = l :: segs b
  | [], b, _ => by simp [segs]
  | c :: l, b, h => by
    have h1 : ¬ c = 32 := fun e => h (by simp [e])
    have ih := segs_head l b (fun e => h (by simp [e]))
    simp only [List.cons_append, segs, if_neg h1, ih]
theorem segs_tail : ∀ (a t : List UInt8), ∃ p, segs (a ++ 32 :: t) = p ++ segs t
  | [], t => ⟨[[]], by simp [segs]⟩
  | c :: a, t => by
    obtain ⟨p, hp⟩ := segs_tail a t
    by_cases h : c = 32
    · exact ⟨[] :: p, by simp only [List.cons_append, segs, if_pos h, hp]⟩
    · cases p with
      | nil =>
        obtain ⟨q, hq⟩ : ∃ q, segs (a ++ 32 :: t) = q := ⟨_, rfl⟩
        simp only [List.nil_append] at hp
        exact absurd (congrArg List.length hp) (by
          have : ∀ a, (segs t).length < (segs (a ++ 32 :: t)).length := by
            intro a
            induction a with
            | nil => simp [segs]
            | cons d a ih =>
              simp only [List.cons_append, segs]
              split
              · simp; omega
              · split
                · rename_i hn; rw [hn] at ih; simp at ih
                · rename_i hn; rw [hn] at ih; simpa using ih
          have := this a
          omega)
      | cons x p => exact ⟨(c :: x) :: p, by simp only [List.cons_append, segs, if_neg h, hp]⟩
theorem segs_mem (a l b : List UInt8) (h : 32 ∉ l) : l ∈ segs (a ++ 32 :: (l ++ 32 :: b)) := by
  obtain ⟨p, hp⟩ := segs_tail a (l ++ 32 :: b)
  rw [hp, segs_head l b h]
  simp
theorem kw_segs : segs kwTree = [] :: (kwList ++ [[]]) := by decide +kernel

/-- The parts of a text: the first one stands ahead of the first blank, each other one behind a blank. -/
theorem segs_cut : ∀ (T : List UInt8), ∃ h r b, segs T = h :: r ∧ T = h ++ b ∧ (b = [] ∨ ∃ b', b = 32 :: b') ∧ 32 ∉ h ∧ ∀ l ∈ r, ∃ a b, T = a ++ 32 :: (l ++ b) ∧ (b = [] ∨ ∃ b', b = 32 :: b') ∧ 32 ∉ l
  | [] => ⟨[], [], [], rfl, rfl, Or.inl rfl, by simp, by intro l hl; cases hl⟩
  | c :: T => by
    obtain ⟨h, r, b, hs, hT, hb, hh, hr⟩ := segs_cut T
    by_cases hc : c = 32
    · refine ⟨[], h :: r, c :: T, by simp only [segs, if_pos hc, hs], by simp, Or.inr ⟨T, by rw [hc]⟩, by simp, ?_⟩
      intro l hl
      rcases List.mem_cons.1 hl with rfl | hl
      · exact ⟨[], b, by rw [hT, hc]; simp, hb, hh⟩
      · obtain ⟨a, b2, hT2, hb2, hl2⟩ := hr l hl
        exact ⟨c :: a, b2, by rw [hT2]; simp, hb2, hl2⟩
    · refine ⟨c :: h, r, b, by simp only [segs, if_neg hc, hs], by rw [hT]; simp, hb, ?_, ?_⟩
      · intro hm
        rcases List.mem_cons.1 hm with e | e
        · exact hc e.symm
        · exact hh e
      · intro l hl
        obtain ⟨a, b2, hT2, hb2, hl2⟩ := hr l hl
        exact ⟨c :: a, b2, by rw [hT2]; simp, hb2, hl2⟩
theorem kwTree_end : kwTree.getLast? = some 32 := by decide +kernel
theorem kwList_ne : ∀ l ∈ kwList, l ≠ [] := by decide +kernel
theorem kw_cut (l : List UInt8) (h : l ∈ kwList) : ∃ a b, kwTree = a ++ 32 :: (l ++ 32 :: b) ∧ 32 ∉ l := by
  obtain ⟨h0, r, b, hs, hT, hb, hh, hr⟩ := segs_cut kwTree
  rw [kw_segs] at hs
  obtain ⟨rfl, rfl⟩ := List.cons.inj hs
  obtain ⟨a, b2, hT2, hb2, hl2⟩ := hr l (by simp [h])
  rcases hb2 with rfl | ⟨b3, rfl⟩
  · have he := kwTree_end
    rw [hT2] at he
    have hne := kwList_ne l h
    simp only [List.append_nil] at he
    have h9 : (a ++ 32 :: l).getLast? = l.getLast? := by
      cases hq : l with
      | nil => exact absurd hq hne
      | cons x y => simp [List.getLast?_append, List.getLast?_cons]
    rw [h9] at he
    exact absurd (List.mem_of_getLast? he) hl2
  · exact ⟨a, b3, hT2, hl2⟩

theorem bt_list (T : List UInt8) (k : Nat) (h : k < T.length) : bt ⟨T.toArray⟩ k = ((T[k]'h).toNat : Int) := by
  have h2 : k < (ByteArray.mk T.toArray).size := by simpa [ByteArray.size] using h
  rw [← get_bt _ k h2]; rfl
theorem extract_list (T : List UInt8) (i j : Nat) : ((ByteArray.mk T.toArray).extract i j).toList = (T.drop i).take (j - i) := by
  rw [ByteArray.toList_eq, ByteArray.data_extract]; simp [List.extract_eq_take_drop]
end Go.Proofs.YtkhjenlclpcehaaDoor
