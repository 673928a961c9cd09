/- A name in backquotes, as package token writes it, is lexed to one identifier of that name. Condition: bytes below 128. -/
import Derived.Test.YtkhjenlclpcehaaDoorPn
import Derived.Test.YtkhjenlclpcehaaDoorPk
import Derived.Test.YtkhjenlclpcehaaDoorIf
namespace Go.Proofs.YtkhjenlclpcehaaDoor
open Go.PlainAid

def hexD (n : Nat) : UInt8 := UInt8.ofNat (if n < 10 then 48 + n else 87 + n)
/-- What is written for one byte. -/
def outQ (c : UInt8) : List UInt8 :=
  if c = 96 then [92, 96] else if c = 10 then [92, 110] else if c = 13 then [92, 114] else if c = 9 then [92, 116] else if c = 92 then [92, 92]
  else if 32 ≤ c.toNat ∧ c.toNat ≤ 126 then [c] else [92, 120, hexD (c.toNat / 16), hexD (c.toNat % 16)]
def quoteL (l : List UInt8) : List UInt8 := 96 :: (l.flatMap outQ ++ [96])
def quoteS (s : ByteArray) : ByteArray := ⟨(quoteL s.data.toList).toArray⟩

theorem bt_drop (T : List UInt8) (i k : Nat) (x : UInt8) (h : (T.drop i)[k]? = some x) : bt ⟨T.toArray⟩ (i + k) = (x.toNat : Int) ∧ i + k < T.length := by
  rw [List.getElem?_drop] at h
  obtain ⟨h1, h2⟩ := List.getElem?_eq_some_iff.1 h
  exact ⟨by rw [bt_list T (i + k) h1, h2], h1⟩
theorem startsB_96 (T : List UInt8) (i : Nat) (x : UInt8) (r : List UInt8) (h : T.drop i = x :: r) : startsB ⟨T.toArray⟩ i ⟨#[96]⟩ = (x == 96) := by
  unfold startsB
  have hlt : i < T.length := by
    rcases Nat.lt_or_ge i T.length with h2 | h2
    · exact h2
    · rw [List.drop_of_length_le h2] at h; cases h
  have hs : (ByteArray.mk #[96]).size = 1 := rfl
  have hz : (ByteArray.mk T.toArray).size = T.length := by simp [ByteArray.size]
  have ht : (ByteArray.mk #[96]).toList = [96] := by decide +kernel
  rw [hs, hz, extract_list, h, ht, decide_eq_true (by omega), show i + 1 - i = 1 by omega]
  simp

theorem simpleEsc_at (c u : Int) (k : Nat) (hk : k < 12) (hf : bt escF k = c) (ht : bt escT k = u) (hn : ∀ j, j < k → ¬ bt escF j = c) : simpleEsc c = some u := by
  have aux : ∀ m j, k - j = m → j ≤ k → simpFrom escF escT c j = some u := by
    intro m
    induction m with
    | zero => intro j h1 h2; obtain rfl : j = k := by omega
              rw [simpFrom_hit hk hf, ht]
    | succ m ih => intro j h1 h2; rw [simpFrom_go (by omega) (hn j (by omega))]; exact ih (j + 1) (by omega) (by omega)
  exact aux k 0 (by omega) (by omega)
theorem simpleEsc_no (c : Int) (hn : ∀ j, j < 12 → ¬ bt escF j = c) : simpleEsc c = none := by
  have aux : ∀ m j, 12 - j = m → simpFrom escF escT c j = none := by
    intro m
    induction m with
    | zero => intro j h1; exact simpFrom_end (by omega)
    | succ m ih => intro j h1; rw [simpFrom_go (by omega) (hn j (by omega))]; exact ih (j + 1) (by omega)
  exact aux 12 0 rfl
theorem se96 : simpleEsc 96 = some 96 := simpleEsc_at 96 96 11 (by decide) (by decide +kernel) (by decide +kernel) (by decide +kernel)
theorem se110 : simpleEsc 110 = some 10 := simpleEsc_at 110 10 3 (by decide) (by decide +kernel) (by decide +kernel) (by decide +kernel)
theorem se114 : simpleEsc 114 = some 13 := simpleEsc_at 114 13 4 (by decide) (by decide +kernel) (by decide +kernel) (by decide +kernel)
theorem se116 : simpleEsc 116 = some 9 := simpleEsc_at 116 9 5 (by decide) (by decide +kernel) (by decide +kernel) (by decide +kernel)
theorem se92 : simpleEsc 92 = some 92 := simpleEsc_at 92 92 7 (by decide) (by decide +kernel) (by decide +kernel) (by decide +kernel)
theorem se120 : simpleEsc 120 = none := simpleEsc_no 120 (by decide +kernel)

theorem hexD_val : ∀ n, n < 16 → hexV ((hexD n).toNat : Int) = n := by decide +kernel
section
variable {T : List UInt8} {i : Nat} {tail : List UInt8}
theorem escOfQ_simple {e : UInt8} {u : Int} (h : T.drop i = 92 :: e :: tail) (hs : simpleEsc (e.toNat : Int) = some u) : escOf ⟨T.toArray⟩ i false = some ([asB u], i + 2) := by
  obtain ⟨h1, h2⟩ := bt_drop T i 1 e (by rw [h]; rfl)
  have hz : (ByteArray.mk T.toArray).size = T.length := by simp [ByteArray.size]
  unfold escOf
  rw [if_pos (by rw [hz]; exact h2), h1, hs]
theorem escOfQ_hex {n : Nat} (hn : n < 128) (h : T.drop i = 92 :: 120 :: hexD (n / 16) :: hexD (n % 16) :: tail) : escOf ⟨T.toArray⟩ i false = some ([UInt8.ofNat n], i + 4) := by
  obtain ⟨h1, h2⟩ := bt_drop T i 1 120 (by rw [h]; rfl)
  obtain ⟨h3, _⟩ := bt_drop T i 2 (hexD (n / 16)) (by rw [h]; rfl)
  obtain ⟨h5, h6⟩ := bt_drop T i 3 (hexD (n % 16)) (by rw [h]; rfl)
  have hz : (ByteArray.mk T.toArray).size = T.length := by simp [ByteArray.size]
  have e120 : (((120 : UInt8).toNat : Nat) : Int) = 120 := rfl
  have v1 := hexD_val (n / 16) (by omega)
  have v2 := hexD_val (n % 16) (by omega)
  unfold escOf
  rw [if_pos (by rw [hz]; exact h2), h1, e120, se120]
  simp only []
  rw [if_neg (by omega)]
  have ed : escDigits 120 false = some 2 := by decide +kernel
  rw [ed]
  simp only []
  unfold escHex
  rw [if_pos (by rw [hz]; omega)]
  have hv : hexVal ⟨T.toArray⟩ 2 (i + 2) 0 = some (n : Int) := by
    rw [hexVal, h3, v1, if_pos (by omega), hexVal, show i + 2 + 1 = i + 3 from rfl, h5, v2, if_pos (by omega), hexVal]
    congr 1
    omega
  rw [hv]
  simp only [Option.bind_some, hexPart, if_true, Option.map_some]
  have e : asB ((n : Int) % 256) = UInt8.ofNat n := by
    unfold asB
    congr 1
    omega
  rw [e]

theorem step_esc {e c : UInt8} {f : Nat} {v : List UInt8} (h : T.drop i = 92 :: e :: tail) (hs : simpleEsc (e.toNat : Int) = some (c.toNat : Int)) :
    quotFrom ⟨T.toArray⟩ ⟨#[96]⟩ false false (f + 1) i v = quotFrom ⟨T.toArray⟩ ⟨#[96]⟩ false false f (i + 2) (v ++ [c]) := by
  obtain ⟨h1, h2⟩ := bt_drop T i 0 92 (by rw [h]; rfl)
  have hz : (ByteArray.mk T.toArray).size = T.length := by simp [ByteArray.size]
  have e92 : (((92 : UInt8).toNat : Nat) : Int) = 92 := rfl
  rw [Nat.add_zero, e92] at h1
  rw [quotFrom_esc (by rw [hz]; exact h2) (startsB_96 T i 92 _ h) (by rintro ⟨hn, _⟩; rw [h1] at hn; rcases hn with hn | hn <;> cases hn) h1 (escOfQ_simple h hs)]
  have e : asB (c.toNat : Int) = c := by unfold asB; simp
  rw [e]
theorem step_hex {c : UInt8} {f : Nat} {v : List UInt8} (hc : c.toNat < 128) (h : T.drop i = 92 :: 120 :: hexD (c.toNat / 16) :: hexD (c.toNat % 16) :: tail) :
    quotFrom ⟨T.toArray⟩ ⟨#[96]⟩ false false (f + 1) i v = quotFrom ⟨T.toArray⟩ ⟨#[96]⟩ false false f (i + 4) (v ++ [c]) := by
  obtain ⟨h1, h2⟩ := bt_drop T i 0 92 (by rw [h]; rfl)
  have hz : (ByteArray.mk T.toArray).size = T.length := by simp [ByteArray.size]
  have e92 : (((92 : UInt8).toNat : Nat) : Int) = 92 := rfl
  rw [Nat.add_zero, e92] at h1
  rw [quotFrom_esc (by rw [hz]; exact h2) (startsB_96 T i 92 _ h) (by rintro ⟨hn, _⟩; rw [h1] at hn; rcases hn with hn | hn <;> cases hn) h1 (escOfQ_hex hc h)]
  have e : UInt8.ofNat c.toNat = c := by simp
  rw [e]
theorem step_plain {c : UInt8} {f : Nat} {v : List UInt8} (h96 : ¬ c = 96) (h10 : ¬ c = 10) (h13 : ¬ c = 13) (h92 : ¬ c = 92) (h : T.drop i = c :: tail) :
    quotFrom ⟨T.toArray⟩ ⟨#[96]⟩ false false (f + 1) i v = quotFrom ⟨T.toArray⟩ ⟨#[96]⟩ false false f (i + 1) (v ++ [c]) := by
  obtain ⟨h1, h2⟩ := bt_drop T i 0 c (by rw [h]; rfl)
  have hz : (ByteArray.mk T.toArray).size = T.length := by simp [ByteArray.size]
  rw [Nat.add_zero] at h1
  have hne : ∀ k : UInt8, ¬ c = k → ¬ (c.toNat : Int) = (k.toNat : Int) := fun k hk he => hk (UInt8.toNat_inj.1 (by omega))
  rw [quotFrom_plain (by rw [hz]; exact h2) (by rw [startsB_96 T i c _ h]; simpa using h96) (by rintro ⟨hn, _⟩; rw [h1] at hn; rcases hn with hn | hn; exact hne 10 h10 hn; exact hne 13 h13 hn) (by rw [h1]; exact hne 92 h92)]
  have e : byteAt ⟨T.toArray⟩ i = c := by unfold byteAt asB; rw [h1]; simp
  rw [e]

/-- One character. -/
theorem step_one {c : UInt8} {f : Nat} {v : List UInt8} (hc : c.toNat < 128) (h : T.drop i = outQ c ++ tail) :
    quotFrom ⟨T.toArray⟩ ⟨#[96]⟩ false false (f + 1) i v = quotFrom ⟨T.toArray⟩ ⟨#[96]⟩ false false f (i + (outQ c).length) (v ++ [c]) := by
  unfold outQ at h ⊢
  split at h
  · rename_i e; subst e; rw [if_pos rfl]; exact step_esc h se96
  · split at h
    · rename_i e; subst e; exact step_esc h se110
    · split at h
      · rename_i e; subst e; exact step_esc h se114
      · split at h
        · rename_i e; subst e; exact step_esc h se116
        · split at h
          · rename_i e; subst e; exact step_esc h se92
          · split at h
            · rename_i n96 n10 n13 n9 n92 hp
              rw [if_neg n96, if_neg n10, if_neg n13, if_neg n9, if_neg n92, if_pos hp]
              exact step_plain n96 n10 n13 n92 h
            · rename_i n96 n10 n13 n9 n92 hp
              rw [if_neg n96, if_neg n10, if_neg n13, if_neg n9, if_neg n92, if_neg hp]
              exact step_hex hc h
theorem quot_all : ∀ (l : List UInt8) (T : List UInt8) (i f : Nat) (v : List UInt8), (∀ c ∈ l, c.toNat < 128) → T.drop i = l.flatMap outQ ++ [96] → l.length < f →
    quotFrom ⟨T.toArray⟩ ⟨#[96]⟩ false false f i v = .good (v ++ l) T.length
  | [], T, i, f, v, _, h, hf => by
    obtain ⟨g, rfl⟩ : ∃ g, f = g + 1 := ⟨f - 1, by omega⟩
    have h' : T.drop i = 96 :: [] := h
    obtain ⟨h1, h2⟩ := bt_drop T i 0 96 (by rw [h']; rfl)
    have hz : (ByteArray.mk T.toArray).size = T.length := by simp [ByteArray.size]
    rw [quotFrom_stop (by rw [hz]; exact h2) (startsB_96 T i 96 _ h')]
    have hl := congrArg List.length h'
    rw [List.length_drop] at hl
    have hs : (ByteArray.mk #[96]).size = 1 := rfl
    have e : i + 1 = T.length := by simp at hl; omega
    rw [hs, e, List.append_nil]
  | c :: l, T, i, f, v, hc, h, hf => by
    obtain ⟨g, rfl⟩ : ∃ g, f = g + 1 := ⟨f - 1, by simp at hf; omega⟩
    have h' : T.drop i = outQ c ++ (l.flatMap outQ ++ [96]) := by rw [h]; simp
    rw [step_one (hc c (by simp)) h', quot_all l T _ g _ (fun x hx => hc x (by simp [hx])) (by rw [← List.drop_drop, h', List.drop_left]) (by simp at hf; omega)]
    simp
end
end Go.Proofs.YtkhjenlclpcehaaDoor
