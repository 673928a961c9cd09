/- What the law asks of a text ahead of all else: no backslash near the end, no comment's begin and end in one, and what the reference speaks of. Condition: the text is shorter than 2^31 bytes. · The parser reads the text of one letter as a name. Condition: the tables hold what they were laid with. · The law's last call: the parser reads the text of one letter. Condition: the tables hold what they were laid with. · The law holds at every text. Condition: the tables hold what they were laid with. · The row of the law of exact reading, and its card. Condition: the listed variables hold what the program's text lays them with (tied by the card). -/
import Derived.Test.YtmkkeacbabmaeaaGreatDoorM11
import Derived.Test.YtmkkeacbabmaeaaGreatDoorM12
import Derived.StillTailTactics
import Derived.Test.YtmkkeacbabmaeaaGreatDoorRows
import Derived.Test.YtmkkeacbabmaeaaGreatDoorCards
import Derived.Test.YtmkkeacbabmaeaaGreatDoorTie
import Derived.ProofKit
import Derived.LaidMore
import Derived.Lay
import Derived.OpenShut
import Derived.Stop.Joined
import Derived.Stop.LaidErr
import Derived.SevenTiedAt
import Derived.LaidHandle
import Derived.Lib.LaidTab
namespace Go.Proofs.YtmkkeacbabmaeaaGreatDoor
open Go.RowKit Go.PlainAid

/-- An answer that says P where it is v. -/
def Ask (w : World) (v : Bool) (P : Prop) (e : Ending) (w' : World) : Prop := ∃ r, e = .returned (.bool r) ∧ w' = w ∧ (r = v → P)

theorem Ask.mk {w : World} {v : Bool} {P : Prop} {e : Ending} {w' : World} (r : Bool) (h1 : e = .returned (.bool r)) (h2 : w' = w) (h3 : r = v → P) : Ask w v P e w' := ⟨r, h1, h2, h3⟩

set_option maxHeartbeats 2000000 in
set_option maxRecDepth 100000 in
theorem brittle_c (s : ByteArray) (w : World) (hs : s.size ≤ 2147483647) :
    Calls Tryz.prog 4 #[.string s] w (Ask w false (∀ k, s.size ≤ k + 9 → k < s.size → bt s k ≠ 92)) := by
  have hb := get_bt s
  go_enter Tryz.func4, Tryz.ntmps4
  go_wp2
  go_loop [3] (fun v => ∃ k : Nat, k ≤ s.size ∧ v = .int .i64 k ∧ Hid (∀ j, s.size ≤ j + 9 → j < k → bt s j ≠ 92)) (fun v => s.size - (intOf v).toNat)
  case atStart => exact ⟨s.size - 9, by omega, congrArg (Value.int .i64) (by omega), fun j h1 h2 => by omega⟩
  case round =>
    obtain ⟨k, hk, rfl, hr⟩ := hrel
    by_cases hlt : k < s.size
    · by_cases hbl : bt s k = 92
      · go_wp2
        go_ret
        exact ⟨true, rfl, rfl, fun h => by cases h⟩
      · go_wp2
        go_round
        case rel => exact ⟨k + 1, by omega, by go_num, fun j h1 h2 => by
          by_cases e : j = k
          · subst e; exact hbl
          · exact hr.out j h1 (by omega)⟩
        case measure => simp [intOf]; omega
    · go_wp2
      go_ret
      exact ⟨false, rfl, rfl, fun _ j h1 h2 => hr.out j h1 (by omega)⟩

set_option maxHeartbeats 2000000 in
set_option maxRecDepth 100000 in
theorem within_c (s p : ByteArray) (w : World) (hs : s.size ≤ 2147483647) (hp : p.size ≤ 1000) :
    Calls Tryz.prog 5 #[.string s, .string p] w (Ask w false (∀ j, startsB s j p = false)) := by
  go_enter Tryz.func5, Tryz.ntmps5
  go_wp2
  go_loop [5] (fun v => ∃ k : Nat, k ≤ s.size + 1 ∧ v = .int .i64 k ∧ Hid (∀ j, j < k → startsB s j p = false)) (fun v => s.size + 1 - (intOf v).toNat)
  case atStart => exact ⟨0, by omega, rfl, fun j h => by omega⟩
  case round =>
    obtain ⟨k, hk, rfl, hr⟩ := hrel
    by_cases hlt : k + p.size ≤ s.size
    · have hse := starts_eq s p k (by omega)
      cases hst : startsB s k p with
      | true =>
        rw [hst] at hse
        go_wp2
        go_ret
        exact ⟨true, rfl, rfl, fun h => by cases h⟩
      | false =>
        rw [hst] at hse
        have Hst := Lib.hid hst
        clear hst
        go_wp2
        go_round
        case rel => exact ⟨k + 1, by omega, by go_num, fun j h => by
          by_cases e : j = k
          · subst e; exact Hst.out
          · exact hr.out j (by omega)⟩
        case measure => simp [intOf]; omega
    · go_wp2
      go_ret
      refine ⟨false, rfl, rfl, fun _ j => ?_⟩
      by_cases e : j < k
      · exact hr.out j e
      · unfold startsB
        rw [decide_eq_false (show ¬ j + p.size ≤ s.size by omega)]
        rfl

/-- What the reference asks at a place. -/
structure KnownAt (s : ByteArray) (k : Nat) : Prop where
  ok : okB (bt s k) = true
  bang : bt s k = 33 → startsB s (k + 1) ⟨#[61]⟩ = true
  plus : bt s k = 43 ∨ bt s k = 45 → startsB s (k + 1) ⟨#[61]⟩ = false
  back : bt s k = 92 → startsB s (k + 1) ⟨#[10]⟩ = false
  cmt : startsB s k ⟨#[47, 42, 47]⟩ = false

set_option maxHeartbeats 4000000 in
set_option maxRecDepth 100000 in
theorem Known_c (s : ByteArray) (w : World) (hs : s.size ≤ 2147483647) :
    Calls Tryz.prog 6 #[.string s] w (Ask w true (s.size ≤ 4096 ∧ ∀ k, k < s.size → KnownAt s k)) := by
  have hb := get_bt s
  by_cases h40 : s.size ≤ 4096
  case neg =>
    go_enter Tryz.func6, Tryz.ntmps6
    go_wp2
    go_ret
    exact Ask.mk false rfl rfl (fun h => by cases h)
  go_enter Tryz.func6, Tryz.ntmps6
  go_wp2_with fail
  go_loop [3] (fun v => ∃ k : Nat, k ≤ s.size ∧ v = .int .i64 k ∧ Hid (∀ j, j < k → KnownAt s j)) (fun v => s.size - (intOf v).toNat)
  case atStart => exact ⟨0, by omega, rfl, fun j h => by omega⟩
  case round =>
    obtain ⟨k, hk, rfl, hr⟩ := hrel
    by_cases hlt : k < s.size
    · have hl1 := fun W => lStarts_c s ⟨#[61]⟩ (k + 1) W (by omega) (by decide) (by omega)
      have hl2 := fun W => lStarts_c s ⟨#[10]⟩ (k + 1) W (by omega) (by decide) (by omega)
      have hl3 := fun W => lStarts_c s ⟨#[47, 42, 47]⟩ k W (by omega) (by decide) (by omega)
      simp only [Int.natCast_add, Int.cast_ofNat_Int] at hl1 hl2
      obtain ⟨c, hc⟩ : ∃ c, bt s k = c := ⟨_, rfl⟩
      obtain ⟨b1, hb1⟩ : ∃ b1, startsB s (k + 1) ⟨#[61]⟩ = b1 := ⟨_, rfl⟩
      obtain ⟨b2, hb2⟩ : ∃ b2, startsB s (k + 1) ⟨#[10]⟩ = b2 := ⟨_, rfl⟩
      obtain ⟨b3, hb3⟩ : ∃ b3, startsB s k ⟨#[47, 42, 47]⟩ = b3 := ⟨_, rfl⟩
      simp only [hb1] at hl1
      simp only [hb2] at hl2
      simp only [hb3] at hl3
      have Hl1 := Lib.hid hl1
      have Hl2 := Lib.hid hl2
      have Hl3 := Lib.hid hl3
      have Hkn : Hid ((c = 9 ∨ c = 10 ∨ (32 ≤ c ∧ c ≤ 126)) → (c = 33 → b1 = true) → (c = 43 ∨ c = 45 → b1 = false) → (c = 92 → b2 = false) → b3 = false → ∀ j, j < k + 1 → KnownAt s j) := by
        intro q1 q2 q3 q4 q5 j hj
        by_cases e : j = k
        · subst e
          exact ⟨by rw [hc]; exact decide_eq_true q1, fun h => by rw [hb1]; exact q2 (by rw [← hc]; exact h), fun h => by rw [hb1]; exact q3 (by rw [← hc]; exact h), fun h => by rw [hb2]; exact q4 (by rw [← hc]; exact h), by rw [hb3]; exact q5⟩
        · exact hr.out j (by omega)
      clear hl1 hl2 hl3 hb1 hb2 hb3 hr
      have hcc : c = 9 ∨ c = 10 ∨ c = 33 ∨ c = 43 ∨ c = 45 ∨ c = 92 ∨ (c < 32 ∧ c ≠ 9 ∧ c ≠ 10) ∨ 126 < c ∨ (32 ≤ c ∧ c ≤ 126 ∧ c ≠ 33 ∧ c ≠ 43 ∧ c ≠ 45 ∧ c ≠ 92) := by omega
      rcases hcc with rfl | rfl | rfl | rfl | rfl | rfl | h | h | h
      case inr.inr.inr.inr.inr.inr.inl =>
        have n9 : (c != 9) = true := by simp; omega
        have n10 : (c != 10) = true := by simp; omega
        have l32 : decide (c < 32) = true := decide_eq_true h.1
        clear h
        go_wp2_with fail
        go_ret
        exact Ask.mk false rfl rfl (fun h => by cases h)
      case inr.inr.inr.inr.inr.inr.inr.inl =>
        have n9 : (c != 9) = true := by simp; omega
        have n10 : (c != 10) = true := by simp; omega
        have l32 : decide (c < 32) = false := decide_eq_false (by omega)
        have g126 : decide (126 < c) = true := decide_eq_true h
        clear h
        go_wp2_with fail
        go_ret
        exact Ask.mk false rfl rfl (fun h => by cases h)
      case inr.inr.inr.inr.inr.inr.inr.inr =>
        have n9 : (c != 9) = true := by simp; omega
        have n10 : (c != 10) = true := by simp; omega
        have l32 : decide (c < 32) = false := decide_eq_false (by omega)
        have g126 : decide (126 < c) = false := decide_eq_false (by omega)
        have e33 : (c == 33) = false := by simp; omega
        have e43 : (c == 43) = false := by simp; omega
        have e45 : (c == 45) = false := by simp; omega
        have e92 : (c == 92) = false := by simp; omega
        have H := Lib.hid h
        clear h
        cases b3
        all_goals
          go_wp2_with (go_at_call 11; first
            | (with_reducible refine (Hl1.out _).mono ?_; rintro e w' ⟨rfl, rfl⟩)
            | (with_reducible refine (Hl2.out _).mono ?_; rintro e w' ⟨rfl, rfl⟩)
            | (with_reducible refine (Hl3.out _).mono ?_; rintro e w' ⟨rfl, rfl⟩))
          first
          | (go_ret; exact Ask.mk false rfl rfl (fun h => by cases h))
          | (go_round
             case rel => exact ⟨k + 1, by omega, by go_num, Hkn.out (by have hH := H.out; first | trivial | omega | (intro q; exfalso; omega)) (by have hH := H.out; first | trivial | omega | (intro q; exfalso; omega)) (by have hH := H.out; first | trivial | omega | (intro q; exfalso; omega)) (by have hH := H.out; first | trivial | omega | (intro q; exfalso; omega)) (by first | trivial | rfl)⟩
             case measure => simp [intOf]; omega)
      all_goals
        cases b1 <;> cases b2 <;> cases b3
        all_goals
          go_wp2_with (go_at_call 11; first
            | (with_reducible refine (Hl1.out _).mono ?_; rintro e w' ⟨rfl, rfl⟩)
            | (with_reducible refine (Hl2.out _).mono ?_; rintro e w' ⟨rfl, rfl⟩)
            | (with_reducible refine (Hl3.out _).mono ?_; rintro e w' ⟨rfl, rfl⟩))
          first
          | (go_ret; exact Ask.mk false rfl rfl (fun h => by cases h))
          | (go_round
             case rel => exact ⟨k + 1, by omega, by go_num, Hkn.out (by first | trivial | omega | (intro q; first | trivial | rfl | (exfalso; omega))) (by first | trivial | omega | (intro q; first | trivial | rfl | (exfalso; omega))) (by first | trivial | omega | (intro q; first | trivial | rfl | (exfalso; omega))) (by first | trivial | omega | (intro q; first | trivial | rfl | (exfalso; omega))) (by first | trivial | rfl)⟩
             case measure => simp [intOf]; omega)
    · go_wp2_with fail
      go_ret
      first
      | exact Ask.mk true rfl rfl (fun _ => ⟨h40, fun j hj => hr.out j (by omega)⟩)
      | exact Ask.mk true rfl rfl (fun _ j hj => hr.out j (by omega))
end Go.Proofs.YtmkkeacbabmaeaaGreatDoor
namespace Go.Proofs.YtmkkeacbabmaeaaGreatDoor
open Go.RowKit Go.PlainAid

def aText : ByteArray := ⟨#[97]⟩
theorem aText_size : aText.size = 1 := rfl
theorem aText_bt (k : Nat) (h : k < aText.size) : bt aText k = 97 := by
  have : k = 0 := by rw [aText_size] at h; omega
  subst this
  decide
theorem aText_starts (k : Nat) (p : ByteArray) (hp : 2 ≤ p.size) : startsB aText k p = false := by
  unfold startsB
  rw [decide_eq_false (by rw [aText_size]; omega)]
  rfl
theorem aText_ok : TextOk aText where
  small := by rw [aText_size]; omega
  ok k h := by rw [aText_bt k h]; decide
  esc k h e := by rw [aText_bt k h] at e; exact absurd e (by decide)
  sign k h := ⟨fun e => by rw [aText_bt k h] at e; exact absurd e (by decide), fun e => by rw [aText_bt k h] at e; exact absurd e (by decide)⟩
  nost k := aText_starts k _ (by decide)
theorem aText_cmt (k : Nat) : k ≤ 1 → commentEnd aText k = some k := by
  intro hk
  unfold commentEnd
  rw [if_neg, if_neg]
  · rw [aText_starts k _ (by decide)]; simp
  · rintro (h | h)
    · by_cases hk0 : k < aText.size
      · rw [starts_one aText k 35 hk0, aText_bt k hk0] at h
        exact absurd h (by decide)
      · unfold startsB at h
        rw [decide_eq_false (by show ¬ k + 1 ≤ aText.size; omega)] at h
        cases h
    · rw [aText_starts k _ (by decide)] at h; cases h
theorem aText_blanks0 : blanksEnd aText 0 = 0 := by
  rw [blanksEnd, if_neg]
  rintro ⟨h, e⟩
  rw [aText_bt 0 h] at e
  exact absurd e (by decide)
theorem aText_blanks1 : blanksEnd aText 1 = 1 := by
  rw [blanksEnd, if_neg]
  rintro ⟨h, e⟩
  rw [aText_size] at h
  omega
theorem aText_parts : partsEnd aText 0 = 1 := by
  have h0 : 0 < aText.size := by decide
  rw [partsEnd_go h0 (by rw [aText_bt 0 h0]; decide), partsEnd_stop (fun h => by have := h.1; rw [aText_size] at this; omega)]
theorem aText_pref : prefOf aText 0 = none := by
  cases e : prefOf aText 0 with
  | none => rfl
  | some p =>
    have h := prefOf_first e
    have h0 : 0 < aText.size := by decide
    rw [aText_bt 0 h0] at h
    omega
theorem aText_tok : ∃ r, tokOf aText 0 false false = some r ∧ r.text = some aText ∧ r.stop = 1 ∧ eofB r.kind = false := by
  have h0 : 0 < aText.size := by decide
  have hb := aText_bt 0 h0
  refine ⟨_, word_of h0 (by rw [hb]; decide) aText_pref, ?_⟩
  unfold wordTok
  rw [aText_parts]
  have he : aText.extract 0 1 = aText := by apply ByteArray.ext; rfl
  rw [he]
  have hk : kwB (upperS aText) = false := by
    rw [kwB_zzB]
    unfold zzB
    have e : (upperS aText).toList = [65] := by rw [ByteArray.toList_eq]; decide
    rw [e]
    decide
  rw [hk]
  exact ⟨rfl, rfl, by show eofB kIdent = false; decide +kernel⟩
theorem aText_lex : ∃ t1 t2, specLex aText = some [t1, t2] ∧ t1.text = aText := by
  obtain ⟨r, hr, hrt, hrs, hre⟩ := aText_tok
  have g0 : gapFrom aText (aText.size + 1) 0 [] = some ([], 0, 0) := by
    rw [gapFrom_done (by rw [aText_blanks0]; exact aText_cmt 0 (by omega)), aText_blanks0]
  have g1 : gapFrom aText (aText.size + 1) 1 [] = some ([], 1, 1) := by
    rw [gapFrom_done (by rw [aText_blanks1]; exact aText_cmt 1 (by omega)), aText_blanks1]
  have e0 : specLex aText = lexFrom aText 2 1 ([] ++ [mkTok aText ([], 0, 0) r]) := by
    unfold specLex
    rw [show aText.size + 2 = 2 + 1 from rfl, lexFrom_go (f := 2) g0 (show tokOf aText 0 (pathB []) (afterB []) = some r by rw [pathB_nil, afterB_nil]; exact hr) hre, hrs]
  have e1 : tokOf aText 1 (pathB ([] ++ [mkTok aText ([], 0, 0) r])) (afterB ([] ++ [mkTok aText ([], 0, 0) r])) = some ⟨kEof, none, none, 1⟩ := by
    unfold tokOf
    rw [if_pos (show 1 = aText.size from rfl)]
  have e2 := lexFrom_eof (f := 1) (ts := [] ++ [mkTok aText ([], 0, 0) r]) g1 e1 (by show eofB kEof = true; decide +kernel)
  refine ⟨_, _, e0.trans e2, ?_⟩
  show r.text.getD ⟨#[]⟩ = aText
  rw [hrt]
  rfl
end Go.Proofs.YtmkkeacbabmaeaaGreatDoor
namespace Go.Proofs.YtmkkeacbabmaeaaGreatDoor
open Go.RowKit Go.PlainAid

/-- What the parser's tables hold, now and behind whatever is made. -/
structure LexEnv (w : World) : Prop where
  tab : Lib.TabBelow Tryz.prog w.heap.size w "internal/strconv.uint64pow10" .u64 Lib.pow10Tab
  err : ∀ W, RowKit.Below w.heap.size w W → W.cell? ⟨0, 0, none⟩ = some errVar
theorem LexEnv.below {w w' : World} (h : LexEnv w) (hb : RowKit.Below w.heap.size w w') : LexEnv w' :=
  ⟨fun W hW => h.tab W (hb.trans (hW.mono hb.size)), fun W hW => h.err W (hb.trans (hW.mono hb.size))⟩
theorem tokRow_at {w : World} {B g n cap : Nat} {ts : List (TokD × Value)} (h : TokRow w B (.slice (some ⟨g, 0, none⟩) n cap) ts) (j : Nat) (hj : j < ts.length) (q : Nat) (hq : q < 8) (u : Value) (hu : (tokCells (ts[j]'hj))[q]? = some u) : w.cell? ⟨g, j * 8 + q, none⟩ = some u := by
  have aux : ∀ (l : List (TokD × Value)) (k : Nat) (hk : k < l.length), (l.flatMap tokCells)[k * 8 + q]? = (tokCells (l[k]'hk))[q]? := by
    intro l
    induction l with
    | nil => intro k hk; cases hk
    | cons a l ih =>
      intro k hk
      cases k with
      | zero =>
        rw [List.flatMap_cons, List.getElem?_append_left (by simp [tokCells]; omega)]
        simp
      | succ k =>
        rw [List.flatMap_cons, List.getElem?_append_right (by simp [tokCells]; omega)]
        have : (k + 1) * 8 + q - (tokCells a).length = k * 8 + q := by simp [tokCells]; omega
        rw [this]
        exact ih k (by simpa using hk)
  have hc := h.1.cells (g := g) rfl (j * 8 + q) u ((aux ts j hj).trans hu)
  rwa [add_off] at hc
theorem tokRow_head {w : World} {B n cap : Nat} {A : Option Addr} {ts : List (TokD × Value)} (h : TokRow w B (.slice A n cap) ts) (hn : 0 < ts.length) : ∃ g, A = some ⟨g, 0, none⟩ := by
  rcases h.1.2 with ⟨_, h0⟩ | ⟨g, cp, cur, hv, _⟩
  · omega
  · simp at hv
    exact ⟨g, hv.1⟩

set_option maxHeartbeats 2000000 in
set_option maxRecDepth 100000 in
theorem lexes_c (w : World) (hE : LexEnv w) :
    Calls Tryz.prog 7 #[] w fun e w' => e = .returned (.bool true) ∧ RowKit.Below w.heap.size w w' := by
  have Hlex := Lib.hid (implLex_c aText w aText_ok hE.tab hE.err)
  clear hE
  go_enter Tryz.func7, Tryz.ntmps7
  go_wp2_with fail
  refine Hlex.out.mono ?_
  rintro e w1 ⟨hb, k⟩
  obtain ⟨t1, t2, hl, ht⟩ := aText_lex
  rw [hl] at k
  obtain ⟨v, ts, A, c, rfl, rfl, hrow, hmap⟩ := k
  have hlen : ts.length = 2 := by have := congrArg List.length hmap; simpa using this
  obtain ⟨g, rfl⟩ := tokRow_head hrow (by omega)
  have hx : w1.cell? ⟨g, 0 * 8 + 3, none⟩ = some (.string aText) := tokRow_at hrow 0 (by omega) 3 (by omega) _ (by
    have e : (ts[0]'(by omega)).1 = t1 := by
      have := congrArg (fun l => l[0]?) hmap
      simp [hlen] at this
      exact this
    show some (Value.string (ts[0]'(by omega)).1.text) = _
    rw [e, ht])
  have hx2 : w1.cell? ⟨g, 3, none⟩ = some (.string aText) := by rw [Nat.zero_mul, Nat.zero_add] at hx; exact hx
  have hx3 : w1.cell? ⟨g, 3, none⟩ = some (.string { data := #[97] }) := hx2
  rw [hlen]
  have Hb := Lib.hid hb
  clear hb hrow hmap hx hx2 hl ht hlen
  go_wp2_with fail
  go_ret
  exact ⟨rfl, Hb.out⟩
end Go.Proofs.YtmkkeacbabmaeaaGreatDoor
namespace Go.Proofs.YtmkkeacbabmaeaaGreatDoor
open Go.RowKit Go.PlainAid

theorem textOk_of {s : ByteArray} (h40 : s.size ≤ 4096) (hk : ∀ k, k < s.size → KnownAt s k) (hbr : ∀ k, s.size ≤ k + 9 → k < s.size → bt s k ≠ 92) : TextOk s where
  small := h40
  ok k h := (hk k h).ok
  esc k h e := by
    refine ⟨?_, fun e10 => ?_⟩
    · rcases Nat.lt_or_ge (k + 9) s.size with h2 | h2
      · omega
      · exact absurd e (hbr k h2 h)
    · have hlt : k + 1 < s.size := by
        rcases Nat.lt_or_ge (k + 9) s.size with h2 | h2
        · omega
        · exact absurd e (hbr k h2 h)
      have h3 := (hk k h).back e
      rw [starts_one s (k + 1) 10 hlt] at h3
      exact of_decide_eq_false h3 e10
  sign k h := by
    refine ⟨fun e => ?_, fun e hx => ?_⟩
    · have h3 := (hk k h).bang e
      have hle := startsB_le h3
      have hlt : k + 1 < s.size := hle
      rw [starts_one s (k + 1) 61 hlt] at h3
      exact ⟨hlt, of_decide_eq_true h3⟩
    · have h3 := (hk k h).plus e
      rw [starts_one s (k + 1) 61 hx.1] at h3
      exact of_decide_eq_false h3 hx.2
  nost j := by
    by_cases h : j < s.size
    · exact (hk j h).cmt
    · unfold startsB
      rw [decide_eq_false (by show ¬ j + 3 ≤ s.size; omega)]
      rfl

theorem lex_comments {s : ByteArray} : ∀ (f i : Nat) (ts l : List TokD), i ≤ s.size → (∀ t ∈ ts, t.comments.length ≤ s.size) → lexFrom s f i ts = some l → ∀ t ∈ l, t.comments.length ≤ s.size
  | 0, _, _, _, _, _, h => by cases h
  | f + 1, i, ts, l, hi, hts, h => by
    cases hg : gapFrom s (s.size + 1) i [] with
    | none => rw [lexFrom_gap hg] at h; cases h
    | some g =>
      have hgl := gap_len _ _ _ _ hi hg
      cases ht : tokOf s g.2.2 (pathB ts) (afterB ts) with
      | none => rw [lexFrom_tok hg ht] at h; cases h
      | some r =>
        have hgt := tokOf_gt hgl.2.1 ht
        have hts2 : ∀ t ∈ ts ++ [mkTok s g r], t.comments.length ≤ s.size := by
          intro t hm
          rcases List.mem_append.1 hm with hm | hm
          · exact hts t hm
          · simp at hm
            subst hm
            show g.1.length ≤ s.size
            have h1 : g.1.length + i ≤ 0 + g.2.2 := hgl.1
            have h2 := hgl.2.1
            omega
        cases he : eofB r.kind with
        | true => rw [lexFrom_eof hg ht he] at h; cases h; exact hts2
        | false => rw [lexFrom_go hg ht he] at h; exact lex_comments f r.stop _ l hgt.2.2 hts2 h
theorem own_len {w : World} {B e z n : Nat} {v : Value} {xs : List Value} (h : w.ownsRow B e z v n xs) : n ≤ maxLen := by
  rcases h.2 with ⟨_, h0⟩ | ⟨g, cp, cur, hv, _, _, h1, h2, _⟩
  · rw [h0]; exact Nat.zero_le _
  · exact Nat.le_trans h1 h2
set_option maxHeartbeats 8000000 in
set_option maxRecDepth 100000 in
theorem law_c (s : ByteArray) (w : World) (hE : LexEnv w) :
    Calls Tryz.prog 3 #[.string s] w fun e w' => e = .returned (.bool true) ∧ RowKit.Below w.heap.size w w' := by
  have Hle := Lib.hid (fun W (hW : RowKit.Below w.heap.size w W) => lexes_c W (hE.below hW))
  have HE := Lib.hid hE
  clear hE
  by_cases hbig : 2147483647 < s.size
  case pos =>
    go_enter Tryz.func3, Tryz.ntmps3
    go_wp2_with fail
    go_ret
    exact ⟨rfl, RowKit.Below.refl _ _⟩
  have hs : s.size ≤ 2147483647 := by omega
  by_cases h16 : 16384 < s.size
  case pos =>
    go_enter Tryz.func3, Tryz.ntmps3
    go_wp2_with fail
    refine (Hle.out w (RowKit.Below.refl _ _)).mono ?_
    rintro e w' ⟨rfl, hb⟩
    go_wp2_with fail
    go_ret
    exact ⟨rfl, hb⟩
  go_enter Tryz.func3, Tryz.ntmps3
  go_wp2_with fail
  refine (brittle_c s w hs).mono ?_
  rintro e w' ⟨r1, rfl, rfl, hbr⟩
  cases r1 with
  | true =>
    clear hbr
    go_wp2_with fail
    refine (Hle.out w' (RowKit.Below.refl _ _)).mono ?_
    rintro e w2 ⟨rfl, hb⟩
    go_wp2_with fail
    go_ret
    exact ⟨rfl, hb⟩
  | false =>
    have Hbr := Lib.hid (hbr rfl)
    clear hbr
    go_wp2_with fail
    refine (within_c s ⟨#[47, 42, 47]⟩ w' hs (by decide)).mono ?_
    rintro e w2 ⟨r2, rfl, rfl, hwi⟩
    clear hwi
    cases r2 with
    | true =>
      go_wp2_with fail
      refine (Hle.out w2 (RowKit.Below.refl _ _)).mono ?_
      rintro e w3 ⟨rfl, hb⟩
      go_wp2_with fail
      go_ret
      exact ⟨rfl, hb⟩
    | false =>
      go_wp2_with fail
      refine (Known_c s w2 hs).mono ?_
      rintro e w3 ⟨r3, rfl, rfl, hkn⟩
      cases r3 with
      | false =>
        clear hkn
        go_wp2_with fail
        refine (Hle.out w3 (RowKit.Below.refl _ _)).mono ?_
        rintro e w4 ⟨rfl, hb⟩
        go_wp2_with fail
        go_ret
        exact ⟨rfl, hb⟩
      | true =>
        obtain ⟨h40, hkk⟩ := hkn rfl
        have hT := textOk_of h40 hkk Hbr.out
        have Hlex := Lib.hid (implLex_c s w3 hT HE.out.tab HE.out.err)
        clear hkn hkk Hbr hT
        go_wp2_with fail
        refine Hlex.out.mono ?_
        rintro e w1 ⟨hb1, k1⟩
        have Hlex2 := Lib.hid (Lex_c s w1 (by omega))
        cases hsp : specLex s with
        | none =>
          rw [hsp] at k1
          obtain ⟨v1, ts1, a1, A1, c1, rfl, rfl, hrow1⟩ := k1
          obtain ⟨m1, hm1⟩ : ∃ m, ts1.length = m := ⟨_, rfl⟩
          have hmx : m1 ≤ maxLen := by rw [← hm1]; exact own_len hrow1.1
          unfold maxLen at hmx
          rw [hm1]
          have Hm1 := Lib.hid hm1
          have Hsp := Lib.hid hsp
          have Hb1 := Lib.hid hb1
          clear hsp hrow1 hm1 hb1
          go_wp2_with fail
          refine Hlex2.out.mono ?_
          rintro e w2 ⟨hb2, k2⟩
          rw [Hsp.out] at k2
          obtain ⟨v2, ts2, a2, A2, c2, rfl, rfl, hrow2⟩ := k2
          have Hb2 := Lib.hid (Hb1.out.trans (hb2.mono Hb1.out.size))
          have hp1 : (0 : Int) ≤ (a1 : Int) := by omega
          have hp2 : (0 : Int) ≤ (a2 : Int) := by omega
          clear hrow2 hb2 Hlex2 Hlex
          go_wp2_with fail
          go_loopw [57] (fun v wr => ∃ j d : Nat, v = .int .i64 j ∧ j ≤ m1 ∧ wr = w2.drewN d) (fun v _ => m1 - (intOf v).toNat)
          case atStart => exact ⟨0, 0, rfl, by omega, rfl⟩
          case round =>
            obtain ⟨j, d, rfl, hj, hwr⟩ := hrel
            by_cases hlt : j < m1
            · have Hwr := Lib.hid hwr
              clear hwr
              go_wp2_with fail
              go_quiet (fail)
              go_wp2_with fail
              refine ⟨⟨j + 1, d + nq, rfl, by omega, by rw [Hwr.out, World.drewN_drewN]⟩, ?_⟩
              simp [intOf]
              omega
            · have hb3 : RowKit.Below w3.heap.size w3 wr := by rw [hwr]; exact Hb2.out.trans (below_dn _ _ _)
              have Hb3 := Lib.hid hb3
              clear hb3 hwr
              go_wp2_with fail
              refine (Hle.out wr Hb3.out).mono ?_
              rintro e w5 ⟨rfl, hb5⟩
              go_wp2_with fail
              go_ret
              exact ⟨rfl, Hb3.out.trans (hb5.mono Hb3.out.size)⟩
        | some l =>
          rw [hsp] at k1
          obtain ⟨v1, ts1, A1, c1, rfl, rfl, hrow1, hmap1⟩ := k1
          obtain ⟨m, hm⟩ : ∃ m, l.length = m := ⟨_, rfl⟩
          have hl1 : ts1.length = m := by have := congrArg List.length hmap1; simp at this; omega
          rw [hl1]
          have hmx : m ≤ maxLen := by rw [← hl1]; exact own_len hrow1.1
          unfold maxLen at hmx
          have Hl1 := Lib.hid hl1
          have Hsp := Lib.hid hsp
          have Hb1 := Lib.hid hb1
          have Hrow1 := Lib.hid hrow1
          have Hmap1 := Lib.hid hmap1
          have Hm := Lib.hid hm
          clear hsp hrow1 hl1 hb1 hmap1 hm
          go_wp2_with fail
          refine Hlex2.out.mono ?_
          rintro e w2 ⟨hb2, k2⟩
          rw [Hsp.out] at k2
          obtain ⟨v2, ts2, A2, c2, rfl, rfl, hrow2, hmap2⟩ := k2
          have hl2 : ts2.length = m := by have := congrArg List.length hmap2; have h3 := Hm.out; simp at this; omega
          rw [hl2]
          have Hb2 := Lib.hid (Hb1.out.trans (hb2.mono Hb1.out.size))
          have Hr1 := Lib.hid (Hrow1.out.below hb2)
          have Hr2 := Lib.hid hrow2
          have Hl2 := Lib.hid hl2
          have Hmap2 := Lib.hid hmap2
          clear hrow2 hb2 hl2 hmap2 Hlex2 Hlex
          go_wp2_with fail
          go_loopw [57] (fun v wr => ∃ j : Nat, v = .int .i64 j ∧ j ≤ m ∧ RowKit.Below w2.heap.size w2 wr) (fun v _ => m - (intOf v).toNat)
          case atStart => exact ⟨0, rfl, by omega, RowKit.Below.refl _ _⟩
          case round =>
            obtain ⟨j, rfl, hj, hwr⟩ := hrel
            by_cases hlt : j < m
            · have hj1 : j < ts1.length := by have := Hl1.out; omega
              have hj2 : j < ts2.length := by have := Hl2.out; omega
              obtain ⟨g1, rfl⟩ := tokRow_head Hr1.out (by omega)
              obtain ⟨g2, rfl⟩ := tokRow_head Hr2.out (by omega)
              have hrw1 := Hr1.out.below hwr
              have hrw2 := Hr2.out.below hwr
              obtain ⟨t, ht⟩ : ∃ t, (ts1[j]'hj1).1 = t := ⟨_, rfl⟩
              have ht2 : (ts2[j]'hj2).1 = t := by
                have e1 := congrArg (fun l => l[j]?) (Hmap1.out.trans Hmap2.out.symm)
                simp [hj1, hj2] at e1
                rw [← e1, ht]
              obtain ⟨cv1, hcv1⟩ : ∃ v, (ts1[j]'hj1).2 = v := ⟨_, rfl⟩
              obtain ⟨cv2, hcv2⟩ : ∃ v, (ts2[j]'hj2).2 = v := ⟨_, rfl⟩
              have hc1 := hrw1.2 _ (List.getElem_mem hj1)
              have hc2 := hrw2.2 _ (List.getElem_mem hj2)
              rw [ht, hcv1] at hc1
              rw [ht2, hcv2] at hc2
              have e1 : ts1[j]'hj1 = (t, cv1) := Prod.ext ht hcv1
              have e2 : ts2[j]'hj2 = (t, cv2) := Prod.ext ht2 hcv2
              have hcl : t.comments.length ≤ 274877906944 := by
                have hmem : t ∈ l := by rw [← Hmap1.out, ← ht]; exact List.mem_map_of_mem (List.getElem_mem hj1)
                have h1 := lex_comments _ _ _ _ (Nat.zero_le _) (by intro t h; cases h) Hsp.out t hmem
                omega
              have HA := Lib.hid (fun (V : World) (hV : RowKit.Below wr.heap.size wr V) (q : Nat) (hq : q < 8) (u : Value) (hu : (tokCells (t, cv1))[q]? = some u) => tokRow_at (hrw1.below hV) j hj1 q hq u (by rw [e1]; exact hu))
              have HB := Lib.hid (fun (V : World) (hV : RowKit.Below wr.heap.size wr V) (q : Nat) (hq : q < 8) (u : Value) (hu : (tokCells (t, cv2))[q]? = some u) => tokRow_at (hrw2.below hV) j hj2 q hq u (by rw [e2]; exact hu))
              have HS := Lib.hid (fun (V : World) (hV : RowKit.Below wr.heap.size wr V) => sameToken_c t cv1 cv2 _ _ V (hc1.below hV) (hc2.below hV) hcl)
              have Hwr := Lib.hid hwr
              clear hrw1 hrw2 ht ht2 hcv1 hcv2 hc1 hc2 e1 e2 hwr hcl Hrow1 Hr1 Hr2
              go_wp2_with fail
              refine wp_region_still_tail 10 (by kernel_rfl) (by kernel_rfl) ?_
              simp only [List.take_succ_cons, List.take_zero, List.drop_succ_cons, List.drop_zero]
              have hV := drew_below wr.heap.size wr
              generalize ({ heap := wr.heap, tape := wr.tape, drawn := wr.drawn + 1, os := wr.os, output := wr.output } : World) = V at hV ⊢
              have x0 := HA.out V hV 0 (by omega) _ rfl
              have x1 := HA.out V hV 1 (by omega) _ rfl
              have x2 := HA.out V hV 2 (by omega) _ rfl
              have x3 := HA.out V hV 3 (by omega) _ rfl
              have x4 := HA.out V hV 4 (by omega) _ rfl
              have x5 := HA.out V hV 5 (by omega) _ rfl
              have x6 := HA.out V hV 6 (by omega) _ rfl
              have x7 := HA.out V hV 7 (by omega) _ rfl
              have y0 := HB.out V hV 0 (by omega) _ rfl
              have y1 := HB.out V hV 1 (by omega) _ rfl
              have y2 := HB.out V hV 2 (by omega) _ rfl
              have y3 := HB.out V hV 3 (by omega) _ rfl
              have y4 := HB.out V hV 4 (by omega) _ rfl
              have y5 := HB.out V hV 5 (by omega) _ rfl
              have y6 := HB.out V hV 6 (by omega) _ rfl
              have y7 := HB.out V hV 7 (by omega) _ rfl
              rw [Nat.add_zero] at x0 y0
              repeat still_step
              refine wpStill_nil ?_
              clear x0 x1 x2 x3 x4 x5 x6 x7 y0 y1 y2 y3 y4 y5 y6 y7
              go_wp2_with fail
              refine (HS.out V hV).mono ?_
              rintro e w4 ⟨rfl, hb4⟩
              have hb5 := Lib.hid ((Hwr.out.trans (hV.mono Hwr.out.size)).trans (hb4.mono (Nat.le_trans Hwr.out.size hV.size)))
              clear hb4 hV
              go_wp2_with fail
              refine ⟨⟨j + 1, rfl, by omega, hb5.out⟩, ?_⟩
              simp [intOf]
              omega
            · have hb3 : RowKit.Below w3.heap.size w3 wr := Hb2.out.trans (hwr.mono Hb2.out.size)
              have Hb3 := Lib.hid hb3
              clear hb3 hwr
              go_wp2_with fail
              refine (Hle.out wr Hb3.out).mono ?_
              rintro e w5 ⟨rfl, hb5⟩
              go_wp2_with fail
              go_ret
              exact ⟨rfl, Hb3.out.trans (hb5.mono Hb3.out.size)⟩
end Go.Proofs.YtmkkeacbabmaeaaGreatDoor
namespace Go.Proofs.YtmkkeacbabmaeaaGreatDoor
open Go.ChangeShapes Go.WideShapes Go.ChangeAt Go.RowKit Go.Stop
open Go.ChangeMaps (open_string shut_string)

theorem own : ownKnob Tryz.prog.godebug = none := by kernel_rfl
def laid0 : List (String × DataW Unit) := Rows.fnLexExactRow.laid
/-- The listed variables but the type's handle. -/
def laidPlain : List (String × DataW Unit) := laid0.filter fun x => x.2.handleName?.isNone
theorem tiePow : (Rows.laid_internal_strconv_uint64pow10 : DataW Unit) = Lib.tabData .u64 Lib.pow10Tab := by kernel_rfl
theorem errGlobal : Tryz.prog.globalNamed "errors.errorType" = some 0 := by kernel_rfl
theorem rtypeRow : (Tryz.prog.cutTypes.find? (·.1 == "internal/reflectlite.rtype")).map (·.2) = some 108 := by kernel_rfl
theorem errRow : ((List.range Tryz.prog.types.size).filter fun t => Tryz.prog.rowNamed t [101, 114, 114, 111, 114]) = [36] := by kernel_rfl

/-- WHAT THE CONDITION GIVES A WALK: the handle's one cell. -/
theorem handle_of_laid {W : World} (h : laidMetH Tryz.prog laid0 W) : W.cell? ⟨0, 0, none⟩ = some errVar := by
  have h' : laidMet Tryz.prog laidPlain W ∧ handlesMet Tryz.prog [("errors.errorType", Rows.laid_errors_errorType)] W := h
  obtain ⟨name, u, ty, e1, e2, e3, e4, e5⟩ := h'.2 _ (List.mem_singleton.2 rfl)
  have en : name = [101, 114, 114, 111, 114] := (Option.some.inj e1).symm
  subst en
  obtain rfl := Option.some.inj (rtypeRow.symm.trans e2)
  have hm : ty ∈ (List.range Tryz.prog.types.size).filter fun t => Tryz.prog.rowNamed t [101, 114, 114, 111, 114] := List.mem_filter.2 ⟨List.mem_range.2 e3, e4⟩
  rw [errRow] at hm
  obtain rfl := List.mem_singleton.1 hm
  have hh : typeHandle Tryz.prog 36 = .pointer (some ⟨12, 36, none⟩) := by kernel_rfl
  rw [hh] at e5
  simpa [errVar] using World.var?_cell errGlobal e5 0

theorem pow_of_laid {W : World} (h : laidMetH Tryz.prog laid0 W) : Lib.TabIs Tryz.prog W "internal/strconv.uint64pow10" .u64 Lib.pow10Tab := by
  have h' : laidMet Tryz.prog laidPlain W ∧ handlesMet Tryz.prog [("errors.errorType", Rows.laid_errors_errorType)] W := h
  have h1 : laidMet Tryz.prog (("internal/strconv.uint64pow10", Lib.tabData .u64 Lib.pow10Tab) :: laidPlain.drop 3) W := by
    rw [← tiePow]
    exact laidMet.tail (x := ("math/bits.deBruijn64tab", Rows.laid_math_bits_deBruijn64tab)) (laidMet.tail (x := ("math/bits.deBruijn32tab", Rows.laid_math_bits_deBruijn32tab)) h'.1)
  exact Lib.tabIs_of_head (g := 8) (t := 200) (e := 125) (n := 20) (by kernel_rfl) (by kernel_rfl) (by kernel_rfl) (by kernel_rfl) (by kernel_rfl) (by kernel_rfl) h1

/-- What the walk asks of the world, out of the row's condition. -/
theorem env_of_laid {W : World} (h : laidMetH Tryz.prog laid0 W) : LexEnv W := by
  refine ⟨Lib.tabBelow_of_tabIs (pow_of_laid h), fun V hV => ?_⟩
  have hc := handle_of_laid h
  have h0 : 0 < W.heap.size := by
    apply Nat.pos_of_ne_zero
    intro h0
    have : W.heap[0]? = none := Array.getElem?_eq_none (by omega)
    simp [World.cell?, this] at hc
  rw [hV.cell (p := ⟨0, 0, none⟩) h0]
  exact hc

/-- The witness's heap: the handle's cell set, the other variables laid. -/
noncomputable def holdWorld (os : Os) : World :=
  let w0 := World.holding Tryz.prog os ⟨#[], #[], []⟩
  { w0 with heap := w0.heap.modify 0 fun
      | .cells _ t frozen => .cells #[.iface 108 (.agg #[.pointer (some ⟨12, 36, none⟩)])] t frozen
      | o => o }
noncomputable def laidWorld (os : Os) : World := (holdWorld os).layVars Tryz.prog laidPlain
theorem laidWorld_os (os : Os) : (laidWorld os).os = os := World.layVars_os _ _ _

theorem plain_met (os : Os) (args : Array Value) (hf : (holdWorld os).layFits Tryz.prog laidPlain [] = true) (hi : (holdWorld os).layIfaces Tryz.prog laidPlain (laidWorld os) = true) :
    laidMet Tryz.prog laidPlain ((laidWorld os).forCall (fun _ _ => 0) ⟨#[], args, []⟩).memory := by
  have e1 : (laidPlain.filter fun x => (laidPlain.map (·.1)).contains x.1) = laidPlain := List.filter_eq_self.2 fun x hx => List.contains_iff_mem.2 (List.mem_map.2 ⟨x, hx, rfl⟩)
  have e2 : (laidPlain.filter fun x => !(laidPlain.map (·.1)).contains x.1) = [] := List.filter_eq_nil_iff.2 fun x hx => by rw [List.contains_iff_mem.2 (List.mem_map.2 ⟨x, hx, rfl⟩)]; simp
  have h : laidMet Tryz.prog laidPlain (laidWorld os) := laidMet_layVars (w0 := holdWorld os) (laidPlain.map (·.1)) [] (by rw [e1]; rfl) (by rw [e1]; exact hf) (by rw [e1]; exact hi) (by rw [e2]; exact LaidIn.none)
  exact h.of_heap (by simp [World.memory, World.forCall, Input.heap])

set_option maxRecDepth 100000 in
theorem laidWorld_met (os : Os) (args : Array Value) : laidMetH Tryz.prog laid0 ((laidWorld os).forCall (fun _ _ => 0) ⟨#[], args, []⟩).memory :=
  laidMetH_of_parts (plain_met os args (by kernel_rfl) (by kernel_rfl)) (by kernel_rfl)

set_option maxHeartbeats 1600000 in
set_option maxRecDepth 100000 in
theorem lifted (os : Os) (started : os.Started) (H : Type) (enc : TypeId × Value → H) :
    ReturnsInHanded {} Tryz.checked os 3 .any (fun w args => (Rows.fnLexExactSpec.pre enc Tryz.prog Tryz.f3 [] false w args ∧ laidMetH Tryz.prog laid0 w) ∧ sizedMet enc Tryz.prog Tryz.f3 (OpenSpec.ofChange Rows.fnLexExactSpec) false w args)
      (Rows.fnLexExactSpec.post enc Tryz.prog Tryz.f3 false true false false) := by
  refine returnsInHanded_of_change_and (C := Tryz.checked) (X := fun w _ => laidMetH Tryz.prog laid0 w) (fun _ _ _ hh h => h.of_heap hh) own started (by kernel_rfl) Tryz.func3
    (ChangeSpec.witness_shaped (enc := enc) (C := Tryz.checked) (os := os) (X := fun w _ => laidMetH Tryz.prog laid0 w) false (laidWorld os) #[.string ⟨#[]⟩] 8 (laidWorld_os _)
      (World.shaped_of_ZipB (by kernel_rfl) (by kernel_rfl)) (by kernel_rfl) (by kernel_rfl) (by kernel_rfl)
      (laidWorld_met os _)) ?_
  intro W base args ds gs before hval0 hW _ _ hL _
  have hval : ∀ (j : Nat) t v, Tryz.f3.params[j]? = some t → args[j]? = some v → Value.okWide Tryz.prog W .any base t v := hval0
  have hW' := hW
  obtain ⟨p, q, hA0, hV, rfl, _, _⟩ := hW
  have hA : DataW.TrodAll enc Tryz.prog W 0 (fun _ => true) true Tryz.f3.params.toList args.toList ds p := hA0
  rw [Tryz.params3] at hA hval
  obtain ⟨v0, d0, rfl, rfl, h0⟩ := trodAll_one hA
  obtain ⟨rfl, rfl⟩ := trodVars_none hV
  obtain ⟨s, rfl, rfl, rfl, ws⟩ := open_string Tryz.underlying9 (hval 0 9 v0 rfl rfl) h0
  have hE := env_of_laid hL
  clear hA0 hval0
  simp only [List.append_nil] at hW'
  refine (law_c s W hE).mono fun e W' ⟨he, hB⟩ => ?_
  subst he
  refine ⟨_, rfl, _, _, _, [], [], [], hW', ?_, ?_, ?_, hB.frame _, fun h => by cases h⟩
  · exact trodAll_mk1 (shut_bool Tryz.underlying4 true)
  · exact trodAll_mk1 (shut_string Tryz.underlying9 ws)
  · rfl

theorem row_holds : Rows.FnLexExactSaid :=
  OpenClaim.holds_of_wide 3 Tryz.f3 rfl rfl rfl rfl rfl rfl rfl ⟨rfl, rfl, rfl, rfl, rfl⟩ rfl rfl rfl rfl rfl (by kernel_rfl) Tryz.func3 (by kernel_rfl)
    (of_decide_eq_true (by kernel_rfl)) (by unfold Func.isWrapper; first | (rw [if_pos (by decide +kernel)]; kernel_rfl) | (rw [if_neg (by decide +kernel)]; exact ⟨rfl, rfl⟩))
    (fun os started H enc _ => lifted os started H enc)

theorem card_holds : Rows.FnLexExactCardSaid :=
  Claim7.holds_tied_plain_at .later [] [.data, .data, .data, .data, .handle, .sentinel, .sentinel, .listed, .sentinel, .pinned] true (true, "c4b37ac41ad28ce2e705a367aa1df15861ae37881dda162d2e0899547a2032b2") true row_holds (fun _ h => by cases h) (by kernel_rfl) (fun _ h => by cases h) fnLexExact_row_tie rfl ⟨rfl, rfl⟩ (by kernel_rfl) rfl
    (fun f fn hf hfn => by
      obtain rfl : f = 3 := Option.some.inj ((show Tryz.prog.funcNamed "pub-dabber/laws.FnLexExact" = some 3 by kernel_rfl).symm.trans hf) |>.symm
      obtain rfl : fn = Tryz.f3 := (Option.some.inj (Tryz.func3.symm.trans hfn)).symm
      exact ⟨by kernel_rfl, fun j t ht => by
        rw [Tryz.params3] at ht
        have hm : t ∈ [9] := by simpa using Array.mem_of_getElem? ht
        have hall : ([9].all fun u => !Tryz.prog.wantsStandIn u) = true := by kernel_rfl
        exact (show Tryz.prog.wantsStandIn t = false by simpa using List.all_eq_true.1 hall t hm)⟩)
    (by kernel_rfl)
#print axioms card_holds
end Go.Proofs.YtmkkeacbabmaeaaGreatDoor
