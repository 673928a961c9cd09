/- A name without backquotes is lexed to one identifier of that name. Condition: the name is bare. -/
import Derived.Test.YtkhjenlclpcehaaDoorWn
namespace Go.Proofs.YtkhjenlclpcehaaDoor
open Go.PlainAid

theorem startsB_first {s p : ByteArray} {i : Nat} (hp : 0 < p.size) (h : startsB s i p = true) : bt s i = bt p 0 := by
  unfold startsB at h
  simp only [Bool.and_eq_true, decide_eq_true_eq] at h
  obtain ⟨h1, h2⟩ := h
  have h2 := eq_of_beq h2
  rw [ByteArray.toList_eq, ByteArray.toList_eq] at h2
  have hi : i < s.size := by omega
  rw [← get_bt s i hi, ← get_bt p 0 hp]
  have h3 : (s.extract i (i + p.size)).data.toList[0]? = p.data.toList[0]? := by rw [h2]
  rw [ByteArray.data_extract] at h3
  have hi2 : i < s.data.size := hi
  have hp2 : 0 < p.data.size := hp
  simp at h3
  rw [List.getElem?_take, if_pos hp, List.getElem?_drop, Nat.add_zero, Array.getElem?_toList, Array.getElem?_eq_getElem hi2, Array.getElem?_eq_getElem hp2] at h3
  have e3 : s[i]'hi = p[0]'hp := Option.some.inj h3
  rw [e3]

theorem commentEnd_not {s : ByteArray} {i : Nat} (h1 : ¬ bt s i = 35) (h2 : ¬ bt s i = 45) (h3 : ¬ bt s i = 47) : commentEnd s i = some i := by
  have k1 : ¬ startsB s i ⟨#[35]⟩ = true := fun h => h1 (startsB_first (by decide) h)
  have k2 : ¬ startsB s i ⟨#[45, 45]⟩ = true := fun h => h2 (startsB_first (by decide) h)
  have k3 : ¬ startsB s i ⟨#[47, 42]⟩ = true := fun h => h3 (startsB_first (by decide) h)
  unfold commentEnd
  rw [if_neg (by intro h; rcases h with h | h; exact k1 h; exact k2 h), if_neg k3]
theorem gap_none {s : ByteArray} {i f : Nat} (hb : ¬ (i < s.size ∧ blankB (bt s i) = true)) (h1 : ¬ bt s i = 35) (h2 : ¬ bt s i = 45) (h3 : ¬ bt s i = 47) : gapFrom s (f + 1) i [] = some ([], i, i) := by
  have hbe := blanksEnd_stop hb
  rw [gapFrom_done (by rw [hbe]; exact commentEnd_not h1 h2 h3), hbe]
theorem bt_end (s : ByteArray) : bt s s.size = 0 := by unfold bt; rw [dif_neg (Nat.lt_irrefl _)]
theorem gap_end (s : ByteArray) (f : Nat) : gapFrom s (f + 1) s.size [] = some ([], s.size, s.size) :=
  gap_none (fun h => Nat.lt_irrefl _ h.1) (by rw [bt_end]; decide) (by rw [bt_end]; decide) (by rw [bt_end]; decide)

theorem partsEnd_all (s : ByteArray) : ∀ (m i : Nat), s.size - i = m → partsEnd s i = s.size → ∀ j, i ≤ j → j < s.size → partB (bt s j) = true
  | 0, i, h, _, j, h1, h2 => by omega
  | m + 1, i, h, he, j, h1, h2 => by
    by_cases hb : partB (bt s i) = true
    · rw [partsEnd_go (by omega) hb] at he
      by_cases e : j = i
      · subst e; exact hb
      · exact partsEnd_all s m (i + 1) (by omega) he j (by omega) h2
    · rw [partsEnd_stop (fun h => hb h.2)] at he; omega
theorem prefFrom_parts {s : ByteArray} {a : Nat} (h : ∀ j, a ≤ j → j < s.size → partB (bt s j) = true) : ∀ (f : Nat) (raw bytes : Bool) (n : Nat), prefFrom s a f raw bytes n = none
  | 0, _, _, _ => rfl
  | f + 1, raw, bytes, n => by
    rw [prefFrom]
    split
    · rename_i hlt
      have hp := (partB_iff _).1 (h (a + n) (by omega) hlt)
      rw [if_neg (by omega)]
      split
      · exact prefFrom_parts h f _ _ _
      · split
        · exact prefFrom_parts h f _ _ _
        · rfl
    · rfl
theorem bare_lex (s : ByteArray) (h : bareB s = true) : ∃ a b, specLex s = some [a, b] ∧ a.kind = kIdent ∧ a.text = s ∧ a.raw = s := by
  unfold bareB at h
  simp only [Bool.and_eq_true, decide_eq_true_eq, Bool.not_eq_true'] at h
  obtain ⟨⟨⟨h0, hl⟩, hp⟩, hk⟩ := h
  have hlet := (letterB_iff _).1 hl
  have hall := partsEnd_all s _ 0 rfl hp
  have hpre : prefOf s 0 = none := prefFrom_parts hall 3 false false 0
  have hg := gap_none (s := s) (i := 0) (f := s.size) (fun h => by have := (blankB_iff _).1 h.2; omega) (by omega) (by omega) (by omega)
  have hex : s.extract 0 s.size = s := by simp
  have htok : tokOf s 0 (pathB []) (afterB []) = some ⟨kIdent, some s, none, s.size⟩ := by
    rw [pathB_nil, afterB_nil]
    have ndg : ¬ digitB (bt s 0) = true := fun h => by have := (digitB_iff _).1 h; omega
    unfold tokOf
    rw [if_neg (by omega), if_neg (by simp), if_neg (by omega), if_neg (by intro h; rcases h with h | h; exact ndg h; have := h.1; omega), if_neg (fun h => by have := h.1; omega), hpre]
    simp only []
    rw [if_pos hl]
    unfold wordTok
    rw [hp, hex, if_neg (by rw [hk]; simp)]
  have hge := gap_end s s.size
  have ht2 : ∀ p a, tokOf s s.size p a = some ⟨kEof, none, none, s.size⟩ := fun p a => by unfold tokOf; rw [if_pos rfl]
  refine ⟨mkTok s ([], 0, 0) ⟨kIdent, some s, none, s.size⟩, mkTok s ([], s.size, s.size) ⟨kEof, none, none, s.size⟩, ?_, rfl, rfl, hex⟩
  unfold specLex
  have k1 : eofB kIdent = false := by decide +kernel
  have k2 : eofB kEof = true := by decide +kernel
  rw [lexFrom_go hg htok k1, lexFrom_eof hge (ht2 _ _) k2]
  rfl
theorem bare_named (s : ByteArray) (h : bareB s = true) : namedB s s = true := by
  obtain ⟨a, b, hs, h1, h2, h3⟩ := bare_lex s h
  unfold namedB
  rw [hs]
  simp only []
  rw [h1, h2, h3, h]
  have e : (kIdent.toList == [60, 105, 100, 101, 110, 116, 62]) = true := by decide +kernel
  rw [e]
  simp
end Go.Proofs.YtkhjenlclpcehaaDoor
