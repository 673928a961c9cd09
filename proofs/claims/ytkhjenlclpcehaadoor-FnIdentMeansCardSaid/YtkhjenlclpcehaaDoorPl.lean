/- The reference's keywords are the parser's. No condition. -/
import Derived.Test.YtkhjenlclpcehaaDoorPk
import Derived.Test.YtkhjenlclpcehaaDoorIb
namespace Go.Proofs.YtkhjenlclpcehaaDoor
open Go.PlainAid

theorem spaced_iff (s : ByteArray) : ∀ (m i : Nat), s.size - i = m → (spacedFrom s i = true ↔ ∃ j, i ≤ j ∧ j < s.size ∧ bt s j = 32)
  | 0, i, h => by
    rw [spacedFrom_end (by omega)]
    constructor
    · intro e; cases e
    · rintro ⟨j, h1, h2, _⟩; omega
  | m + 1, i, h => by
    by_cases hb : bt s i = 32
    · rw [spacedFrom_hit (by omega) hb]
      exact ⟨fun _ => ⟨i, Nat.le_refl _, by omega, hb⟩, fun _ => rfl⟩
    · rw [spacedFrom_go (by omega) hb, spaced_iff s m (i + 1) (by omega)]
      constructor
      · rintro ⟨j, h1, h2, h3⟩; exact ⟨j, by omega, h2, h3⟩
      · rintro ⟨j, h1, h2, h3⟩
        refine ⟨j, ?_, h2, h3⟩
        by_cases e : j = i
        · subst e; exact absurd h3 hb
        · omega
theorem kwFind_iff (K s : ByteArray) (h0 : 0 < s.size) : ∀ (m k : Nat), 601 - k = m → (kwFind K s k = true ↔ ∃ j, k ≤ j ∧ j + s.size + 1 < 601 ∧ kwHit K s j = true)
  | 0, k, h => by
    rw [kwFind_end (by omega)]
    constructor
    · intro e; cases e
    · rintro ⟨j, h1, h2, _⟩; omega
  | m + 1, k, h => by
    by_cases hk : k + s.size + 1 < 601
    · cases hh : kwHit K s k
      · rw [kwFind_go hk hh, kwFind_iff K s h0 m (k + 1) (by omega)]
        constructor
        · rintro ⟨j, h1, h2, h3⟩; exact ⟨j, by omega, h2, h3⟩
        · rintro ⟨j, h1, h2, h3⟩
          refine ⟨j, ?_, h2, h3⟩
          by_cases e : j = k
          · subst e; rw [hh] at h3; cases h3
          · omega
      · rw [kwFind_hit hk hh, decide_eq_true h0]
        exact ⟨fun _ => ⟨k, Nat.le_refl _, hk, hh⟩, fun _ => rfl⟩
    · rw [kwFind_end hk]
      constructor
      · intro e; cases e
      · rintro ⟨j, h1, h2, _⟩; omega
theorem kwFind_pos (K s : ByteArray) : ∀ (m k : Nat), 601 - k = m → kwFind K s k = true → 0 < s.size
  | 0, k, h, e => by rw [kwFind_end (by omega)] at e; cases e
  | m + 1, k, h, e => by
    by_cases hk : k + s.size + 1 < 601
    · cases hh : kwHit K s k
      · rw [kwFind_go hk hh] at e; exact kwFind_pos K s m (k + 1) (by omega) e
      · rw [kwFind_hit hk hh] at e; simpa using e
    · rw [kwFind_end hk] at e; cases e
theorem kwTree_len : kwTree.length = 601 := by decide +kernel

theorem kwB_zzB (s : ByteArray) : kwB s = zzB s := by
  obtain ⟨l, rfl⟩ : ∃ l : List UInt8, s = ⟨l.toArray⟩ := ⟨s.data.toList, by simp⟩
  have hsz : (ByteArray.mk l.toArray).size = l.length := by simp [ByteArray.size]
  have hl : (ByteArray.mk l.toArray).toList = l := by rw [ByteArray.toList_eq]
  have hsp : spacedFrom ⟨l.toArray⟩ 0 = true ↔ 32 ∈ l := by
    rw [spaced_iff _ _ 0 rfl, hsz]
    constructor
    · rintro ⟨j, _, h2, h3⟩
      rw [bt_list l j h2] at h3
      have : l[j] = 32 := by apply UInt8.toNat_inj.1; have : (32 : UInt8).toNat = 32 := rfl; omega
      rw [← this]; exact List.getElem_mem h2
    · intro h
      obtain ⟨j, hj, he⟩ := List.getElem_of_mem h
      exact ⟨j, Nat.zero_le _, hj, by rw [bt_list l j hj, he]; rfl⟩
  apply bool_ext
  unfold kwB zzB
  rw [hl, Bool.and_eq_true, Bool.not_eq_true', List.any_eq_true]
  constructor
  · rintro ⟨h1, h2⟩
    have hns : 32 ∉ l := fun h => by rw [hsp.2 h] at h1; cases h1
    have h0 := kwFind_pos _ _ _ 0 rfl h2
    rw [kwFind_iff _ _ h0 _ 0 rfl] at h2
    rw [hsz] at h0 h2
    obtain ⟨j, _, hj, hh⟩ := h2
    unfold kwHit at hh
    rw [hsz, Bool.and_eq_true, Bool.and_eq_true] at hh
    obtain ⟨⟨g1, g2⟩, g3⟩ := hh
    have g1 := of_decide_eq_true g1
    have g3 := of_decide_eq_true g3
    have g2 := eq_of_beq g2
    have hlen := kwTree_len
    unfold kwText at g1 g2 g3
    rw [bt_list _ _ (by omega)] at g1 g3
    rw [extract_list, hl] at g2
    have e1 : kwTree[j]'(by omega) = 32 := by apply UInt8.toNat_inj.1; have : (32 : UInt8).toNat = 32 := rfl; omega
    have e3 : kwTree[j + 1 + l.length]'(by omega) = 32 := by apply UInt8.toNat_inj.1; have : (32 : UInt8).toNat = 32 := rfl; omega
    have e2 : (kwTree.drop (j + 1)).take l.length = l := by
      have hq : j + 1 + l.length - (j + 1) = l.length := by omega
      rw [hq] at g2; exact g2
    have d3 : kwTree.drop (j + 1 + l.length) = 32 :: kwTree.drop (j + 1 + l.length + 1) := by rw [List.drop_eq_getElem_cons (by omega), e3]
    have d2 : kwTree.drop (j + 1) = l ++ 32 :: kwTree.drop (j + 1 + l.length + 1) := by rw [← d3, ← List.take_append_drop l.length (kwTree.drop (j + 1)), e2, List.drop_drop]
    have d1 : kwTree.drop j = 32 :: (l ++ 32 :: kwTree.drop (j + 1 + l.length + 1)) := by rw [List.drop_eq_getElem_cons (by omega), e1, d2]
    have hm := segs_mem (kwTree.take j) l (kwTree.drop (j + 1 + l.length + 1)) hns
    rw [← d1, List.take_append_drop, kw_segs] at hm
    have hne : l ≠ [] := by intro e; rw [e] at h0; cases h0
    simp [hne] at hm
    exact ⟨l, hm, by simp⟩
  · rintro ⟨x, hx, he⟩
    obtain rfl := eq_of_beq he
    obtain ⟨a, b, hT, hns⟩ := kw_cut l hx
    have hne := kwList_ne l hx
    have hpos : 0 < l.length := List.length_pos_iff.2 hne
    have hlen := kwTree_len
    rw [hT] at hlen
    simp at hlen
    refine ⟨?_, ?_⟩
    · cases h : spacedFrom ⟨l.toArray⟩ 0
      · rfl
      · exact absurd (hsp.1 h) hns
    · rw [kwFind_iff _ _ (by rw [hsz]; exact hpos) _ 0 rfl]
      refine ⟨a.length, Nat.zero_le _, by rw [hsz]; omega, ?_⟩
      unfold kwText
      refine kwHit_yes ?_ ?_ ?_
      · rw [bt_list _ _ (by rw [kwTree_len]; omega)]; simp [hT]
      · rw [hsz, extract_list, hl, hT]
        simp
      · rw [hsz, bt_list _ _ (by rw [kwTree_len]; omega)]
        have e : kwTree[a.length + 1 + l.length]? = some 32 := by
          rw [hT, List.getElem?_append_right (by omega), show a.length + 1 + l.length - a.length = l.length + 1 by omega]; simp
        rw [(List.getElem?_eq_some_iff.1 e).2]; rfl
end Go.Proofs.YtkhjenlclpcehaaDoor
