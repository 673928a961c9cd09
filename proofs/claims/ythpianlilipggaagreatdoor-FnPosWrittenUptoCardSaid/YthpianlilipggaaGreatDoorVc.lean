/- The language of positions, its plain side: what letters its texts have, how long they are, and what a numeral is worth. Condition: none. -/
import Derived.Test.YthpianlilipggaaGreatDoorVb
namespace Go.Proofs.YthpianlilipggaaGreatDoor

/-- No blank, and of ASCII. -/
def cln (c : UInt8) : Bool := decide (33 ≤ c.toNat) && decide (c.toNat ≤ 126)
theorem wch_cln {c : UInt8} (h : wch c = true) : cln c = true := by
  simp only [wch, lch, dch, cln, Bool.or_eq_true, Bool.and_eq_true, decide_eq_true_eq, beq_iff_eq] at h ⊢
  rcases h with (h | h) | h
  · omega
  · omega
  · subst h; decide
theorem all_app {p : UInt8 → Bool} {a b : Bs} : (a ++ b).all p = (a.all p && b.all p) := List.all_append
theorem name_cln {v : Bs} (h : nameOk v = true) : v.all cln = true := List.all_eq_true.2 fun c hc => wch_cln (name_wch h c hc)
theorem dec_cln (n : Nat) : (Lib.decDigits n).all cln = true := List.all_eq_true.2 fun c hc => wch_cln (by simp [wch, dec_dch n c hc])
theorem flat_all {α : Type} {f : α → Bs} {p : UInt8 → Bool} {l : List α} (h : ∀ a ∈ l, (f a).all p = true) : (l.flatMap f).all p = true := by
  rw [List.all_eq_true]
  intro c hc
  obtain ⟨a, ha, hc⟩ := List.mem_flatMap.1 hc
  exact List.all_eq_true.1 (h a ha) c hc
theorem IE.cln : ∀ (i : IE), i.ok = true → i.txt.all cln = true
  | .lit n, _ => dec_cln n
  | .len v, h => by
    simp only [IE.txt, all_app, name_cln (show nameOk v = true from h)]
    rfl
  | .ite c t e, h => by
    simp only [IE.ok, Bool.and_eq_true] at h
    simp only [IE.txt, all_app, name_cln h.1.1, IE.cln t h.1.2, IE.cln e h.2]
    rfl
theorem NA.cln : ∀ (a : NA), a.ok = true → a.txt.all cln = true
  | .var _, h => name_cln h
  | .last v, h => by
    simp only [NA.txt, all_app, name_cln (show nameOk v = true from h)]
    rfl
  | .index v i, h => by
    simp only [NA.ok, Bool.and_eq_true] at h
    simp only [NA.txt, all_app, name_cln h.1, IE.cln i h.2]
    rfl
theorem NE.cln : ∀ (a : NE), a.ok = true → a.txt.all cln = true
  | .one a, h => NA.cln a h
  | .many a l, h => by
    simp only [NE.ok, Bool.and_eq_true, List.all_eq_true] at h
    have hl : (l.flatMap fun b => [63, 63] ++ b.txt).all YthpianlilipggaaGreatDoor.cln = true := flat_all fun b hb => by rw [all_app, NA.cln b (h.1.2 b hb)]; rfl
    simp only [NE.txt, all_app, NA.cln a h.1.1, hl]
    rfl
theorem PA.cln : ∀ (a : PA), a.ok = true → a.txt.all cln = true
  | .var _, h => name_cln h
  | .pos n, h => by
    simp only [PA.txt, all_app, NE.cln n h]
    rfl
  | .fin n, h => by
    simp only [PA.txt, all_app, NE.cln n h]
    rfl
theorem PX.cln (x : PX) (h : x.ok = true) : x.txt.all cln = true := by
  simp only [PX.ok, Bool.and_eq_true, List.all_eq_true] at h
  have hl : (x.adds.flatMap fun b => [43] ++ b.txt).all YthpianlilipggaaGreatDoor.cln = true := flat_all fun b hb => by rw [all_app, IE.cln b (h.2 b hb)]; rfl
  rw [PX.txt, all_app, PA.cln _ h.1, hl]
  rfl
theorem PC.cln (x : PC) (h : x.ok = true) : x.txt.all cln = true := by
  simp only [PC.ok, Bool.and_eq_true, List.all_eq_true] at h
  have hl : (x.rest.flatMap fun b => [124, 124] ++ b.txt).all YthpianlilipggaaGreatDoor.cln = true := flat_all fun b hb => by rw [all_app, PX.cln b (h.2 b hb)]; rfl
  rw [PC.txt, all_app, PX.cln _ h.1, hl]
  rfl

/-! ### Lengths -/
theorem name_pos {v : Bs} (h : nameOk v = true) : 1 ≤ v.length := by
  cases v with
  | nil => cases h
  | cons _ _ => simp
theorem dec_pos (n : Nat) : 1 ≤ (Lib.decDigits n).length := List.length_pos_iff.2 (dec_ne n)
theorem dec_len : ∀ (k n : Nat), n < 10 ^ (k + 1) → (Lib.decDigits n).length ≤ k + 1 := by
  intro k
  induction k with
  | zero =>
    intro n hn
    rw [Lib.decDigits, dif_pos (by simpa using hn)]
    simp
  | succ k ih =>
    intro n hn
    rw [Lib.decDigits]
    split
    · simp
    · have := ih (n / 10) (by rw [Nat.div_lt_iff_lt_mul (by decide), ← Nat.pow_succ]; exact hn)
      simp only [List.length_append, List.length_cons, List.length_nil]
      omega
theorem dec_len13 {n : Nat} (h : n < 1099511627776) : (Lib.decDigits n).length ≤ 13 := dec_len 12 n (by omega)
theorem flat_le {α : Type} (f g : α → Bs) (k : Nat) : ∀ (l : List α), (∀ a ∈ l, (f a).length ≤ k * (g a).length) → (l.flatMap f).length ≤ k * (l.flatMap g).length
  | [], _ => by simp
  | a :: l, h => by
    have h1 := h a (by simp)
    have h2 := flat_le f g k l fun b hb => h b (by simp [hb])
    simp only [List.flatMap_cons, List.length_append, Nat.mul_add]
    omega
theorem IE.unp_le : ∀ (i : IE), i.unp.length ≤ 3 * i.txt.length
  | .lit n => by simp only [IE.unp, IE.txt]; omega
  | .len v => by simp only [IE.unp, IE.txt, List.length_append, List.length_cons, List.length_nil]; omega
  | .ite c t e => by
    have h1 := IE.unp_le t
    have h2 := IE.unp_le e
    simp only [IE.unp, IE.txt, List.length_append, List.length_cons, List.length_nil]; omega
theorem NA.unp_le : ∀ (i : NA), i.unp.length ≤ 3 * i.txt.length
  | .var v => by simp only [NA.unp, NA.txt]; omega
  | .last v => by simp only [NA.unp, NA.txt, List.length_append, List.length_cons, List.length_nil]; omega
  | .index v i => by
    have h1 := IE.unp_le i
    simp only [NA.unp, NA.txt, List.length_append, List.length_cons, List.length_nil]; omega
theorem NE.unp_le : ∀ (i : NE), i.unp.length ≤ 3 * i.txt.length
  | .one a => NA.unp_le a
  | .many a l => by
    have h1 := NA.unp_le a
    have h2 := flat_le (fun b : NA => [32, 63, 63, 32] ++ b.unp) (fun b => [63, 63] ++ b.txt) 3 l fun b _ => by
      have := NA.unp_le b
      simp only [List.length_append, List.length_cons, List.length_nil]; omega
    simp only [NE.unp, NE.txt, List.length_append, List.length_cons, List.length_nil] at h2 ⊢; omega
theorem PA.unp_le : ∀ (i : PA), i.unp.length ≤ 3 * i.txt.length
  | .var v => by simp only [PA.unp, PA.txt]; omega
  | .pos n => by
    have h1 := NE.unp_le n
    simp only [PA.unp, PA.txt, List.length_append, List.length_cons, List.length_nil]; omega
  | .fin n => by
    have h1 := NE.unp_le n
    simp only [PA.unp, PA.txt, List.length_append, List.length_cons, List.length_nil]; omega
theorem PX.unp_le (x : PX) : x.unp.length ≤ 3 * x.txt.length := by
  have h1 := PA.unp_le x.atom
  have h2 := flat_le (fun b : IE => [32, 43, 32] ++ b.unp) (fun b => [43] ++ b.txt) 3 x.adds fun b _ => by
    have := IE.unp_le b
    simp only [List.length_append, List.length_cons, List.length_nil]; omega
  simp only [PX.unp, PX.txt, List.length_append] at h2 ⊢; omega
theorem PC.unp_le (x : PC) : x.unp.length ≤ 3 * x.txt.length := by
  have h1 := PX.unp_le x.first
  have h2 := flat_le (fun b : PX => [32, 124, 124, 32] ++ b.unp) (fun b => [124, 124] ++ b.txt) 3 x.rest fun b _ => by
    have := PX.unp_le b
    simp only [List.length_append, List.length_cons, List.length_nil]; omega
  simp only [PC.unp, PC.txt, List.length_append] at h2 ⊢; omega

/-! ### How great a tree is -/
mutual
/-- The letters and values of a tree, at most. -/
def PE.wt : PE → Nat
  | .mk k nm _ l => 5 + k.length + nm.length + PE.wtL l
def PE.wtL : List PE → Nat
  | [] => 0
  | e :: r => e.wt + PE.wtL r
end
mutual
theorem size_le_wt : ∀ (e : PE), e.size ≤ e.wt
  | .mk k nm n l => by
    have := sizeL_le_wt l
    rw [PE.size, PE.wt]; omega
theorem sizeL_le_wt : ∀ (l : List PE), PE.sizeL l ≤ PE.wtL l
  | [] => Nat.le_refl _
  | e :: r => by
    have h1 := size_le_wt e
    have h2 := sizeL_le_wt r
    rw [PE.sizeL, PE.wtL]; omega
end
theorem joined_le (sep : List Bs) (hs : sep.flatten.length ≤ 2) : ∀ (l : List PE), (∀ a ∈ l, a.toks.flatten.length + 2 ≤ 4 * a.wt) → (PE.joined sep (l.map PE.toks)).flatten.length ≤ 4 * PE.wtL l
  | [], _ => by simp [PE.joined]
  | a :: l, h => by
    have aux : ∀ (l : List PE), (∀ a ∈ l, a.toks.flatten.length + 2 ≤ 4 * a.wt) → ((l.map PE.toks).flatMap fun y => sep ++ y).flatten.length ≤ 4 * PE.wtL l := by
      intro l
      induction l with
      | nil => intro _; simp
      | cons a l ih =>
        intro h
        have h1 := h a (by simp)
        have h2 := ih fun b hb => h b (by simp [hb])
        simp only [List.map_cons, List.flatMap_cons, List.flatten_append, List.length_append, PE.wtL] at h2 ⊢
        omega
    have h1 := h a (by simp)
    have h2 := aux l fun b hb => h b (by simp [hb])
    simp only [List.map_cons, PE.joined, List.flatten_append, List.length_append, PE.wtL] at h2 ⊢
    omega
theorem toks_le {c : UInt8} {e : PE} (h : Sd c e) : e.toks.flatten.length + 2 ≤ 4 * e.wt := by
  induction h with
  | @var c v hv hc => rw [toks_var]; simp [PE.wt, PE.wtL, kVar]; omega
  | @int n hn =>
    have := dec_len13 hn
    rw [toks_int]; simp [PE.wt, PE.wtL, kInt]; omega
  | @pos k a hk _ ih =>
    rw [toks_pos k _ _ a hk]
    rcases hk with rfl | rfl <;> simp [PE.wt, PE.wtL, kPos, kEnd] at ih ⊢ <;> omega
  | @add a b _ _ hk iha ihb =>
    rw [toks_add]
    simp [PE.wt, PE.wtL, kAdd] at iha ihb ⊢; omega
  | @choice l hs hk hl ih =>
    rw [toks_choice]
    have := joined_le [[124, 124]] (by decide) l ih
    simp only [PE.wt]; omega
  | @nodes l hs hk hl ih =>
    rw [toks_nodes]
    have := joined_le [[63, 63]] (by decide) l ih
    simp only [PE.wt, List.flatten_append, List.length_append] at this ⊢
    simp only [List.flatten_cons, List.flatten_nil, List.length_append, List.length_cons, List.length_nil]; omega
  | @index v b hv _ ih =>
    rw [toks_index, toks_var]
    simp [PE.wt, PE.wtL, kIndex, kVar] at ih ⊢; omega
  | @last v hv =>
    rw [toks_last, toks_var]
    simp [PE.wt, PE.wtL, kLast, kVar]; omega
  | @len v hv =>
    rw [toks_len, toks_var]
    simp [PE.wt, PE.wtL, kLen, kVar]; omega
  | @ite v a b hv _ _ iha ihb =>
    rw [toks_ite, toks_var]
    simp [PE.wt, PE.wtL, kIf, kVar] at iha ihb ⊢; omega

/-! ### What a numeral is worth -/
theorem decFrom_app : ∀ (l r : Bs) (acc m : Nat), Lib.decFrom acc l = some m → Lib.decFrom acc (l ++ r) = Lib.decFrom m r
  | [], r, acc, m, h => by
    simp only [Lib.decFrom, Option.some.injEq] at h
    subst h; rfl
  | b :: l, r, acc, m, h => by
    simp only [Lib.decFrom, List.cons_append] at h ⊢
    cases hd : Lib.digitVal b with
    | none => rw [hd] at h; cases h
    | some d =>
      rw [hd] at h
      exact decFrom_app l r _ m h
theorem digitVal_dg {d : Nat} (hd : d < 10) : Lib.digitVal (UInt8.ofNat (48 + d)) = some d := by
  have : d = 0 ∨ d = 1 ∨ d = 2 ∨ d = 3 ∨ d = 4 ∨ d = 5 ∨ d = 6 ∨ d = 7 ∨ d = 8 ∨ d = 9 := by omega
  rcases this with rfl | rfl | rfl | rfl | rfl | rfl | rfl | rfl | rfl | rfl <;> decide
theorem decFrom_dec : ∀ (n : Nat), Lib.decFrom 0 (Lib.decDigits n) = some n := by
  intro n
  induction n using Nat.strongRecOn with
  | _ n ih =>
    rw [Lib.decDigits]
    split
    · rename_i h
      simp only [Lib.decFrom, digitVal_dg h, Nat.zero_mul, Nat.zero_add]
    · rename_i h
      rw [decFrom_app _ _ 0 _ (ih (n / 10) (by omega))]
      simp only [Lib.decFrom, digitVal_dg (show n % 10 < 10 by omega), Option.some.injEq]
      omega
theorem dec_head (n : Nat) : ∃ c r, Lib.decDigits n = c :: r ∧ dch c = true := by
  cases h : Lib.decDigits n with
  | nil => exact absurd h (dec_ne n)
  | cons c r => exact ⟨c, r, rfl, dec_dch n c (by rw [h]; simp)⟩
theorem atoi_dec (n : Nat) : Lib.atoi (Lib.decDigits n) = some (n : Int) := by
  obtain ⟨c, r, h, hc⟩ := dec_head n
  have hd := decFrom_dec n
  rw [h] at hd ⊢
  have h1 : (c == 45) = false := by rw [beq_eq_false_iff_ne]; intro e; subst e; cases hc
  have h2 : (c == 43) = false := by rw [beq_eq_false_iff_ne]; intro e; subst e; cases hc
  simp [Lib.atoi, h1, h2, Lib.decNat, hd]
end Go.Proofs.YthpianlilipggaaGreatDoor
