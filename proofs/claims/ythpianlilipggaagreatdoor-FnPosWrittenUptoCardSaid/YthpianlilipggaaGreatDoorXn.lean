/- The law's tokens are the tree's. Condition: the tree is an expression of the language, of at most 2^22 tokens. -/
import Derived.Test.YthpianlilipggaaGreatDoorXm
namespace Go.Proofs.YthpianlilipggaaGreatDoor
open Go.RowKit Go.PlainAid

theorem toks_pos1 {c : UInt8} {e : PE} (h : Sd c e) : 0 < e.toks.length := by
  induction h with
  | var _ _ => rw [toks_var]; simp
  | int _ => rw [toks_int]; simp
  | @pos k a hk _ ih => rw [toks_pos k _ _ a hk]; simp
  | add _ _ _ iha ihb => rw [toks_add]; simp only [List.length_append]; omega
  | @choice l _ _ hl ih =>
    have := Jn_pos (sep := [[124, 124]]) (l := l) (j := l.length) ih (by omega) (by omega)
    rw [toks_choice]
    unfold Jn at this
    rwa [List.take_length] at this
  | nodes _ _ _ _ => rw [toks_nodes]; simp
  | index _ _ _ => rw [toks_index]; simp only [List.length_append, List.length_cons]; omega
  | last _ => rw [toks_last]; simp
  | len _ => rw [toks_len]; simp
  | ite _ _ _ _ _ => rw [toks_ite]; simp
theorem Jn_len {sep : List Bs} {l : List PE} (hp : ∀ e ∈ l, 0 < e.toks.length) : ∀ j, j ≤ l.length → j ≤ (Jn sep l j).length
  | 0, _ => Nat.zero_le _
  | 1, h => Jn_pos hp Nat.one_pos h
  | j + 2, h => by
    have he : l[j + 1]? = some (l[j + 1]'(by omega)) := List.getElem?_eq_getElem (by omega)
    have h1 := Jn_len (sep := sep) hp (j + 1) (by omega)
    have h2 := hp _ (List.getElem_mem (show j + 1 < l.length by omega))
    rw [show j + 2 = j + 1 + 1 from rfl, Jn_succ (by omega) he]
    simp only [List.length_append]
    omega
theorem Jn_part {sep : List Bs} {l : List PE} {e : PE} (h : e ∈ l) : e.toks.length ≤ (Jn sep l l.length).length := by
  obtain ⟨j, hj, he⟩ := List.getElem_of_mem h
  have he' : l[j]? = some e := by rw [List.getElem?_eq_getElem hj, he]
  have h1 := Jn_le (sep := sep) (show j + 1 ≤ l.length from hj)
  rcases Nat.eq_zero_or_pos j with rfl | h0
  · rw [Jn_one he'] at h1
    exact h1
  · rw [Jn_succ h0 he'] at h1
    simp only [List.length_append] at h1 ⊢
    omega
theorem Jn_all (sep : List Bs) (l : List PE) : Jn sep l l.length = PE.joined sep (l.map PE.toks) := by
  unfold Jn
  rw [List.take_length]
/-- The parts of a tree that has some. -/
theorem parts_at {w : World} {k nm : Bs} {n : Int} {l : List PE} {v : Value} (h : PEAt w (.mk k nm n l) v) (h0 : 0 < l.length) :
    ∃ g o cap, v = .slice (some ⟨g, o, none⟩) l.length cap ∧ l.length ≤ cap ∧ PEsAt w (some ⟨g, o, none⟩) 0 l ∧ ∀ (j : Nat) (e : PE), l[j]? = some e → ∃ u, PartAt w g (o + j * 4) e u ∧ PEAt w e u := by
  obtain ⟨a, cap, rfl, hcap, hp⟩ := h
  obtain ⟨g, o, u, rfl, _⟩ := PEsAt.at hp (List.getElem?_eq_getElem h0)
  refine ⟨g, o, cap, rfl, hcap, hp, ?_⟩
  intro j e he
  obtain ⟨g', o', u', e1, c0, c1, c2, c3, hu⟩ := PEsAt.at hp he
  cases e1
  rw [Nat.zero_add] at c0 c1 c2 c3
  exact ⟨u', ⟨c0, c1, c2, c3⟩, hu⟩

/-- THE LAW'S TOKENS. -/
theorem posTokens_c : ∀ (m : Nat) (e : PE) (c : UInt8), e.size ≤ m → Sd c e → e.toks.length ≤ 4194304 → ∀ (v : Value) (w : World), PEAt w e v →
    Calls Tryz.prog 8 #[peVal e v] w (Toks e.toks w) := by
  intro m
  induction m with
  | zero =>
    intro e c hm
    cases e
    rw [PE.size] at hm
    omega
  | succ m ih =>
    intro e c hm hs hN v w h
    have hd : ∀ {k nm : Bs} {n : Int} {l : List PE}, e = .mk k nm n l → ∀ (a : PE) (c' : UInt8), a ∈ l → Sd c' a → a.toks.length ≤ 4194304 → ∀ (u : Value), PEAt w a u → ∀ W, Below w.heap.size w W → Calls Tryz.prog 8 #[peVal a u] W (Toks a.toks W) := by
      intro k nm n l he a c' ha hsa hla u hu W hW
      subst he
      have := size_part (k := k) (nm := nm) (n := n) ha
      exact ih a c' (by omega) hsa hla u W (hu.below hW)
    cases hs with
    | @var _ v' hv hc =>
      obtain ⟨a, cap, rfl, _, _⟩ := h
      rw [toks_var]
      exact toksVar_c w v' 0 a 0 cap
    | @int q hq =>
      obtain ⟨a, cap, rfl, _, _⟩ := h
      rw [toks_int]
      exact toksInt_c w ⟨#[]⟩ (by decide) q hq a 0 cap
    | @pos k a hk ha =>
      obtain ⟨g, o, cap, rfl, hcap, hx, hp⟩ := parts_at h (Nat.one_pos)
      obtain ⟨u, hu, hue⟩ := hp 0 a rfl
      rw [Nat.zero_mul] at hu
      have ht := toks_pos k [] 0 a hk
      rw [ht, List.length_append] at hN
      have hla : a.toks.length ≤ 4194304 := by omega
      rcases hk with rfl | rfl
      · rw [ht]
        exact toksPos_c w g o cap a u hu a.toks (toks_pos1 ha) hla (hd rfl a _ (by simp) ha hla u hue)
      · rw [ht]
        exact toksEnd_c w g o cap a u hu a.toks (toks_pos1 ha) hla (hd rfl a _ (by simp) ha hla u hue)
    | @add a b ha hb hk =>
      obtain ⟨g, o, cap, rfl, hcap, hx, hp⟩ := parts_at h (Nat.zero_lt_succ 1)
      obtain ⟨u0, hu0, hue0⟩ := hp 0 a rfl
      obtain ⟨u1, hu1, hue1⟩ := hp 1 b rfl
      rw [Nat.zero_mul] at hu0
      rw [toks_add] at hN ⊢
      simp only [List.length_append] at hN
      have hla : a.toks.length ≤ 4194304 := by omega
      have hlb : b.toks.length ≤ 4194304 := by omega
      exact toksAdd_c w g o cap a u0 hu0 a.toks (toks_pos1 ha) hla (hd rfl a _ (by simp) ha hla u0 hue0) b u1 hu1 b.toks (toks_pos1 hb) hlb (hd rfl b _ (by simp) hb hlb u1 hue1)
    | @choice l hl hk h1 =>
      obtain ⟨g, o, cap, rfl, hcap, hx, hp⟩ := parts_at h (show 0 < l.length by omega)
      rw [toks_choice, ← Jn_all] at hN ⊢
      have hps : ∀ e ∈ l, 0 < e.toks.length := fun e he => toks_pos1 (hl e he)
      have hll := Jn_len (sep := [[124, 124]]) hps l.length (Nat.le_refl _)
      exact toksChoice_c w g o cap l hx (by omega) (by omega) hcap hps hN fun a ha u W hu => by
        have := size_part (k := kChoice) (nm := []) (n := 0) ha
        exact ih a _ (by omega) (hl a ha) (Nat.le_trans (Jn_part ha) hN) u W hu
    | @nodes l hl hk h1 =>
      obtain ⟨g, o, cap, rfl, hcap, hx, hp⟩ := parts_at h (show 0 < l.length by omega)
      rw [toks_nodes, ← Jn_all] at hN ⊢
      simp only [List.length_append] at hN
      have hN : (Jn [[63, 63]] l l.length).length ≤ 4194304 := by omega
      have hps : ∀ e ∈ l, 0 < e.toks.length := fun e he => toks_pos1 (hl e he)
      have hll := Jn_len (sep := [[63, 63]]) hps l.length (Nat.le_refl _)
      exact toksNodes_c w g o cap l hx (by omega) (by omega) hcap hps hN fun a ha u W hu => by
        have := size_part (k := kNodes) (nm := []) (n := 0) ha
        exact ih a _ (by omega) (hl a ha) (Nat.le_trans (Jn_part ha) hN) u W hu
    | @index v' b hv hb =>
      obtain ⟨g, o, cap, rfl, hcap, hx, hp⟩ := parts_at h (Nat.zero_lt_succ 1)
      obtain ⟨u0, hu0, hue0⟩ := hp 0 _ rfl
      obtain ⟨u1, hu1, hue1⟩ := hp 1 b rfl
      rw [Nat.zero_mul] at hu0
      have ha : Sd 115 (.mk kVar v' 0 []) := .var hv (by decide)
      rw [toks_index] at hN ⊢
      simp only [List.length_append] at hN
      have hla : (PE.mk kVar v' 0 []).toks.length ≤ 4194304 := by omega
      have hlb : b.toks.length ≤ 4194304 := by omega
      exact toksIndex_c w g o cap _ u0 hu0 _ (toks_pos1 ha) hla (hd rfl _ _ (by simp) ha hla u0 hue0) b u1 hu1 b.toks (toks_pos1 hb) hlb (hd rfl b _ (by simp) hb hlb u1 hue1)
    | @last v' hv =>
      obtain ⟨g, o, cap, rfl, hcap, hx, hp⟩ := parts_at h (Nat.one_pos)
      obtain ⟨u0, hu0, hue0⟩ := hp 0 _ rfl
      rw [Nat.zero_mul] at hu0
      have ha : Sd 115 (.mk kVar v' 0 []) := .var hv (by decide)
      rw [toks_last] at hN ⊢
      simp only [List.length_append] at hN
      have hla : (PE.mk kVar v' 0 []).toks.length ≤ 4194304 := by omega
      exact toksLast_c w g o cap _ u0 hu0 _ (toks_pos1 ha) hla (hd rfl _ _ (by simp) ha hla u0 hue0)
    | @len v' hv =>
      obtain ⟨g, o, cap, rfl, hcap, hx, hp⟩ := parts_at h (Nat.one_pos)
      obtain ⟨u0, hu0, hue0⟩ := hp 0 _ rfl
      rw [Nat.zero_mul] at hu0
      have ha : Sd 115 (.mk kVar v' 0 []) := .var hv (by decide)
      rw [toks_len] at hN ⊢
      simp only [List.length_append] at hN
      have hla : (PE.mk kVar v' 0 []).toks.length ≤ 4194304 := by omega
      exact toksLen_c w g o cap _ u0 hu0 _ (toks_pos1 ha) hla (hd rfl _ _ (by simp) ha hla u0 hue0)
    | @ite v' a b hv hsa hsb =>
      obtain ⟨g, o, cap, rfl, hcap, hx, hp⟩ := parts_at h (Nat.zero_lt_succ 2)
      obtain ⟨u0, hu0, hue0⟩ := hp 0 _ rfl
      obtain ⟨u1, hu1, hue1⟩ := hp 1 a rfl
      obtain ⟨u2, hu2, hue2⟩ := hp 2 b rfl
      rw [Nat.zero_mul] at hu0
      have ha : Sd 115 (.mk kVar v' 0 []) := .var hv (by decide)
      rw [toks_ite] at hN ⊢
      simp only [List.length_append] at hN
      have hl0 : (PE.mk kVar v' 0 []).toks.length ≤ 4194304 := by omega
      have hl1 : a.toks.length ≤ 4194304 := by omega
      have hl2 : b.toks.length ≤ 4194304 := by omega
      exact toksIf_c w g o cap _ u0 hu0 _ (toks_pos1 ha) hl0 (hd rfl _ _ (by simp) ha hl0 u0 hue0) a u1 hu1 a.toks (toks_pos1 hsa) hl1 (hd rfl a _ (by simp) hsa hl1 u1 hue1) b u2 hu2 b.toks (toks_pos1 hsb) hl2 (hd rfl b _ (by simp) hsb hl2 u2 hue2)
/-! ### How many tokens a tree has -/
theorem joined_num (sep : List Bs) (hs : sep.length ≤ 2) : ∀ (l : List PE), (∀ a ∈ l, a.toks.length + 2 ≤ 4 * a.wt) → (PE.joined sep (l.map PE.toks)).length ≤ 4 * PE.wtL l
  | [], _ => by simp [PE.joined]
  | a :: l, h => by
    have aux : ∀ (l : List PE), (∀ a ∈ l, a.toks.length + 2 ≤ 4 * a.wt) → ((l.map PE.toks).flatMap fun y => sep ++ y).length ≤ 4 * PE.wtL l := by
      intro l
      induction l with
      | nil => intro _; simp
      | cons a l ih =>
        intro h
        have h1 := h a (by simp)
        have h2 := ih fun b hb => h b (by simp [hb])
        simp only [List.map_cons, List.flatMap_cons, List.length_append, PE.wtL] at h2 ⊢
        omega
    have h1 := h a (by simp)
    have h2 := aux l fun b hb => h b (by simp [hb])
    simp only [List.map_cons, PE.joined, List.length_append, PE.wtL] at h2 ⊢
    omega
theorem toks_num {c : UInt8} {e : PE} (h : Sd c e) : e.toks.length + 2 ≤ 4 * e.wt := by
  induction h with
  | @var c v hv hc => rw [toks_var]; simp [PE.wt, PE.wtL, kVar]; omega
  | @int n hn =>
    rw [toks_int]; simp [PE.wt, PE.wtL, kInt]
  | @pos k a hk _ ih =>
    rw [toks_pos k _ _ a hk]
    rcases hk with rfl | rfl <;> simp [PE.wt, PE.wtL, kPos, kEnd] at ih ⊢ <;> omega
  | @add a b _ _ hk iha ihb =>
    rw [toks_add]
    simp [PE.wt, PE.wtL, kAdd] at iha ihb ⊢; omega
  | @choice l hs hk hl ih =>
    rw [toks_choice]
    have := joined_num [[124, 124]] (by decide) l ih
    simp only [PE.wt]; omega
  | @nodes l hs hk hl ih =>
    rw [toks_nodes]
    have := joined_num [[63, 63]] (by decide) l ih
    simp only [PE.wt, List.length_append] at this ⊢
    simp only [List.length_append, List.length_cons, List.length_nil]; omega
  | @index v b hv _ ih =>
    rw [toks_index, toks_var]
    simp [PE.wt, PE.wtL, kIndex, kVar] at ih ⊢; omega
  | @last v hv =>
    rw [toks_last, toks_var]
    simp [PE.wt, PE.wtL, kLast, kVar]; omega
  | @len v hv =>
    rw [toks_len, toks_var]
    simp [PE.wt, PE.wtL, kLen, kVar]; omega
  | @ite v a b hv _ _ iha ihb =>
    rw [toks_ite, toks_var]
    simp [PE.wt, PE.wtL, kIf, kVar] at iha ihb ⊢; omega
end Go.Proofs.YthpianlilipggaaGreatDoor
