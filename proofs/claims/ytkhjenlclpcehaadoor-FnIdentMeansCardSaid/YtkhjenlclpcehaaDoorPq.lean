/- A name in backquotes means that name: it is lexed to one identifier of that name. Condition: the name is not empty, not bare, and its bytes are below 128. -/
import Derived.Test.YtkhjenlclpcehaaDoorPo
namespace Go.Proofs.YtkhjenlclpcehaaDoor
open Go.PlainAid

theorem sizeL (s : ByteArray) : s.size = s.data.toList.length := (Array.length_toList).symm
theorem quoteS_list (s : ByteArray) : (quoteS s).data.toList = quoteL s.data.toList := by unfold quoteS; exact List.toList_toArray
theorem outQ_len (c : UInt8) : 1 ≤ (outQ c).length ∧ (outQ c).length ≤ 4 := by
  unfold outQ
  split
  · exact ⟨by decide, by decide⟩
  · split
    · exact ⟨by decide, by decide⟩
    · split
      · exact ⟨by decide, by decide⟩
      · split
        · exact ⟨by decide, by decide⟩
        · split
          · exact ⟨by decide, by decide⟩
          · split
            · exact ⟨Nat.le_refl _, by show 1 ≤ 4; decide⟩
            · exact ⟨by show 1 ≤ 4; decide, Nat.le_refl _⟩
theorem outQ_all : ∀ l : List UInt8, l.length ≤ (l.flatMap outQ).length ∧ (l.flatMap outQ).length ≤ 4 * l.length
  | [] => ⟨Nat.le_refl _, Nat.le_refl _⟩
  | c :: l => by
    have h1 := outQ_all l
    have h2 := outQ_len c
    rw [List.flatMap_cons, List.length_append, List.length_cons]
    omega
theorem quoteL_len (l : List UInt8) : l.length + 2 ≤ (quoteL l).length ∧ (quoteL l).length ≤ 4 * l.length + 2 := by
  have h := outQ_all l
  have e : (quoteL l).length = (l.flatMap outQ).length + 2 := by unfold quoteL; simp
  omega
theorem quoteS_size (s : ByteArray) : s.size + 2 ≤ (quoteS s).size ∧ (quoteS s).size ≤ 4 * s.size + 2 := by
  have h := quoteL_len s.data.toList
  have e := sizeL (quoteS s)
  rw [quoteS_list] at e
  have e2 := sizeL s
  omega

theorem quote_lex (s : ByteArray) (h0 : 0 < s.size) (ha : ∀ c ∈ s.data.toList, c.toNat < 128) : ∃ a b, specLex (quoteS s) = some [a, b] ∧ a.kind = kIdent ∧ a.text = s ∧ a.raw = quoteS s := by
  have hz := (quoteS_size s).1
  have hlen := sizeL (quoteS s)
  rw [quoteS_list] at hlen
  have hl2 := (sizeL s).symm
  have b0 : bt (quoteS s) 0 = 96 := by
    show bt ⟨(quoteL s.data.toList).toArray⟩ 0 = 96
    rw [bt_list _ 0 (by omega)]; rfl
  have hbl : ¬ blankB (bt (quoteS s) 0) = true := by rw [b0]; decide +kernel
  have hg := gap_none (s := quoteS s) (i := 0) (f := (quoteS s).size) (fun h => hbl h.2) (by rw [b0]; decide) (by rw [b0]; decide) (by rw [b0]; decide)
  have hex : (quoteS s).extract 0 (quoteS s).size = quoteS s := by simp
  have hm : markOf (quoteS s) 0 = ⟨#[96]⟩ := by
    have e : ((quoteS s).extract 0 (0 + 1)).toList = [96] := by
      show ((ByteArray.mk (quoteL s.data.toList).toArray).extract 0 (0 + 1)).toList = [96]
      rw [extract_list]; rfl
    have e2 : (quoteS s).extract 0 (0 + 1) = ⟨#[96]⟩ := by
      rw [ByteArray.toList_eq] at e
      have e3 : ((quoteS s).extract 0 (0 + 1)).data = #[96] := Array.toList_inj.1 e
      cases hx : (quoteS s).extract 0 (0 + 1) with
      | mk d => rw [hx] at e3; rw [show d = #[96] from e3]
    unfold markOf
    rw [if_neg (by rw [e]; simp), e2]
  have hq : quotOf (quoteS s) 0 false false = .good s.data.toList (quoteS s).size := by
    unfold quotOf
    rw [hm]
    have e1 : (0 + (ByteArray.mk #[96]).size) = 1 := rfl
    rw [e1, hlen]
    have h := quot_all s.data.toList (quoteL s.data.toList) 1 (quoteL s.data.toList).length [] ha (by unfold quoteL; rfl) (by omega)
    rw [List.nil_append] at h
    exact h
  have hback : backTok (quoteS s) 0 = some ⟨kIdent, some s, none, (quoteS s).size⟩ := by
    unfold backTok
    rw [hq]
    simp only []
    rw [if_neg (fun h => by rw [h] at hl2; simp at hl2; omega)]
  have htok : tokOf (quoteS s) 0 (pathB []) (afterB []) = some ⟨kIdent, some s, none, (quoteS s).size⟩ := by
    rw [pathB_nil, afterB_nil]
    unfold tokOf
    rw [if_neg (by omega), if_neg (by simp), if_pos b0, hback]
  have hge := gap_end (quoteS s) (quoteS s).size
  have ht2 : ∀ p a, tokOf (quoteS s) (quoteS s).size p a = some ⟨kEof, none, none, (quoteS s).size⟩ := fun p a => by unfold tokOf; rw [if_pos rfl]
  refine ⟨mkTok (quoteS s) ([], 0, 0) ⟨kIdent, some s, none, (quoteS s).size⟩, mkTok (quoteS s) ([], (quoteS s).size, (quoteS s).size) ⟨kEof, none, none, (quoteS s).size⟩, ?_, rfl, rfl, hex⟩
  unfold specLex
  have k1 : eofB kIdent = false := by decide +kernel
  have k2 : eofB kEof = true := by decide +kernel
  rw [lexFrom_go hg htok k1, lexFrom_eof hge (ht2 _ _) k2]
  rfl

theorem quote_named (s : ByteArray) (h0 : 0 < s.size) (ha : ∀ c ∈ s.data.toList, c.toNat < 128) (hb : bareB s = false) : namedB (quoteS s) s = true := by
  obtain ⟨a, b, hs, h1, h2, h3⟩ := quote_lex s h0 ha
  have hz := (quoteS_size s).1
  unfold namedB
  rw [hs]
  simp only []
  rw [h1, h2, h3, hb]
  have e : (kIdent.toList == [60, 105, 100, 101, 110, 116, 62]) = true := by decide +kernel
  have e2 : ((quoteS s).toList == s.toList) = false := by
    rw [beq_eq_false_iff_ne]
    intro h
    have h4 := congrArg List.length h
    rw [ByteArray.toList_eq, ByteArray.toList_eq] at h4
    have e4 := sizeL (quoteS s)
    have e5 := sizeL s
    omega
  rw [e, e2]
  simp
end Go.Proofs.YtkhjenlclpcehaaDoor
