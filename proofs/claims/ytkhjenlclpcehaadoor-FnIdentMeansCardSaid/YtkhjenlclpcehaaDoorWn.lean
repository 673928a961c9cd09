/- The reference's Bare and Named are the plain ones. Condition: the texts are at most 2^38 bytes long. -/
import Derived.Test.YtkhjenlclpcehaaDoorWm
namespace Go.Proofs.YtkhjenlclpcehaaDoor
open Go.RowKit Go.PlainAid

/-- A name that is an identifier without backquotes. -/
def bareB (s : ByteArray) : Bool := decide (0 < s.size) && letterB (bt s 0) && decide (partsEnd s 0 = s.size) && !kwB (upperS s)
def identKind : ByteArray := ⟨#[60, 105, 100, 101, 110, 116, 62]⟩
/-- A text that is one identifier of a name, in backquotes only if it must be. -/
def namedB (t n : ByteArray) : Bool := match specLex t with
  | some [a, _] => (a.kind.toList == [60, 105, 100, 101, 110, 116, 62]) && (a.text.toList == n.toList) && (a.raw.toList == t.toList) && ((t.toList == n.toList) == bareB n)
  | _ => false

set_option maxHeartbeats 800000 in
set_option maxRecDepth 20000 in
theorem Bare_c (s : ByteArray) (w : World) (hs : s.size ≤ 274877906944) :
    Calls Tryd.prog 8 #[.string s] w fun e w' => e = .returned (.bool (bareB s)) ∧ Below w.heap.size w w' := by
  have hb := get_bt s
  by_cases h0 : s.size = 0
  · have hs0 : s = ⟨#[]⟩ := by
      cases s with | mk d => cases d with | mk l => cases l with
        | nil => rfl
        | cons a l => simp [ByteArray.size] at h0
    subst hs0
    clear hb
    go_enter Tryd.func8, Tryd.ntmps8
    go_wp2
    go_ret
    exact ⟨rfl, Below.refl _ _⟩
  · have hi : 0 < s.size := by omega
    obtain ⟨c, hc⟩ : ∃ c, bt s 0 = c := ⟨_, rfl⟩
    have hb0 : ((s[0]'hi).toNat : Int) = c := by rw [hb 0 hi]; exact hc
    have hP := Lib.hid (lParts_c s 0 w (by omega) (by omega))
    have hU := Lib.hid (Upper_c s w (by omega))
    have hK := fun w2 => Keyword_c (upperS s) w2 (by rw [upperS_size]; omega)
    have hB : Hid (bareB s = (letterB c && decide (partsEnd s 0 = s.size) && !kwB (upperS s))) := by show _ = _; simp [bareB, hi, hc]
    have hp1 := partsEnd_ge s 0
    have hp2 := partsEnd_le s 0 (by omega)
    obtain ⟨e0, he0⟩ : ∃ e0, partsEnd s 0 = e0 := ⟨_, rfl⟩
    rw [he0] at hp1 hp2 hP hB
    have hemp : s.toList.isEmpty = false := by
      have h3 : s.data.toList.length = s.size := by simp
      rw [ByteArray.toList_eq]
      cases h : s.data.toList with
      | nil => rw [h] at h3; exact absurd h3.symm h0
      | cons a l => rfl
    have hup : (⟨(upperL s.data.toList).toArray⟩ : ByteArray) = upperS s := rfl
    rw [hup] at hU
    clear he0 hb hc hup
    cases hlet : letterB c
    · go_enter Tryd.func8, Tryd.ntmps8
      go_wp2_with (go_at_call 14; refine (Letter_c _ _).mono ?_; rintro e w' ⟨rfl, rfl⟩)
      go_ret
      exact ⟨ret_bool (by rw [hB.out, hlet]; rfl), Below.refl _ _⟩
    · by_cases hpe : e0 = s.size
      · go_enter Tryd.func8, Tryd.ntmps8
        go_wp2_with (first
          | (go_at_call 14; refine (Letter_c _ _).mono ?_; rintro e w' ⟨rfl, rfl⟩)
          | (go_at_call 15; refine hP.out.mono ?_; rintro e w' ⟨rfl, rfl⟩)
          | (go_at_call 17; refine hU.out.mono ?_; rintro e w' ⟨rfl, hbw⟩)
          | (go_at_call 16; refine (hK _).mono ?_; rintro e w' ⟨rfl, rfl⟩))
        go_ret
        exact ⟨ret_bool (by rw [hB.out, hlet, hpe]; simp), hbw⟩
      · have hne : ((e0 : Int) == (s.size : Int)) = false := by simp; omega
        go_enter Tryd.func8, Tryd.ntmps8
        go_wp2_with (first
          | (go_at_call 14; refine (Letter_c _ _).mono ?_; rintro e w' ⟨rfl, rfl⟩)
          | (go_at_call 15; refine hP.out.mono ?_; rintro e w' ⟨rfl, rfl⟩))
        go_ret
        exact ⟨ret_bool (by rw [hB.out, hlet, decide_eq_false hpe]; rfl), Below.refl _ _⟩

set_option maxHeartbeats 1600000 in
set_option maxRecDepth 20000 in
theorem Named_c (t n : ByteArray) (w : World) (ht : t.size ≤ 274877906944) (hn : n.size ≤ 274877906944) :
    Calls Tryd.prog 5 #[.string t, .string n] w fun e w' => e = .returned (.bool (namedB t n)) ∧ Below w.heap.size w w' := by
  have hL := Lib.hid (Lex_c t w ht)
  have hBr := fun W => Bare_c n W hn
  go_enter Tryd.func5, Tryd.ntmps5
  go_wp2_with fail
  refine hL.out.mono ?_
  intro e w' hp
  obtain ⟨hbw, hp⟩ := hp
  cases hsp : specLex t with
  | none =>
    rw [hsp] at hp
    obtain ⟨v, ts, a, A, c, rfl, rfl, _⟩ := hp
    have hN : Hid (namedB t n = false) := by show _ = _; unfold namedB; rw [hsp]
    clear hsp hBr hL
    go_wp2_with fail
    go_ret
    exact ⟨ret_bool hN.out.symm, hbw⟩
  | some l =>
    rw [hsp] at hp
    obtain ⟨v, ts, A, c, rfl, rfl, hrow, hl⟩ := hp
    by_cases h2 : ts.length = 2
    · obtain ⟨p0, p1, rfl⟩ : ∃ p0 p1, ts = [p0, p1] := by
        cases ts with
        | nil => cases h2
        | cons p0 r => cases r with
          | nil => cases h2
          | cons p1 r => cases r with
            | nil => exact ⟨p0, p1, rfl⟩
            | cons p2 r => simp at h2
      have hN : Hid (namedB t n = ((p0.1.kind.toList == [60, 105, 100, 101, 110, 116, 62]) && (p0.1.text.toList == n.toList) && (p0.1.raw.toList == t.toList) && ((t.toList == n.toList) == bareB n))) := by show _ = _; unfold namedB; rw [hsp, ← hl]; rfl
      obtain ⟨g, cap, hv, _, _⟩ := hrow.1.form (by simp)
      simp at hv
      obtain ⟨rfl, hc2⟩ := hv
      have k0 : w'.cell? ⟨g, 0, none⟩ = some (.string p0.1.kind) := hrow.1.cells (g := g) rfl 0 _ rfl
      have k2 : w'.cell? ⟨g, 2, none⟩ = some (.string p0.1.raw) := hrow.1.cells (g := g) rfl 2 _ rfl
      have k3 : w'.cell? ⟨g, 3, none⟩ = some (.string p0.1.text) := hrow.1.cells (g := g) rfl 3 _ rfl
      have hBr2 := Lib.hid (hBr w')
      clear hrow hl hsp h2 hc2 hBr hL
      obtain ⟨kd, hkd⟩ : ∃ kd, p0.1.kind = kd := ⟨_, rfl⟩
      obtain ⟨rw0, hrw⟩ : ∃ rw0, p0.1.raw = rw0 := ⟨_, rfl⟩
      obtain ⟨tx, htx⟩ : ∃ tx, p0.1.text = tx := ⟨_, rfl⟩
      rw [hkd] at k0 hN
      rw [hrw] at k2 hN
      rw [htx] at k3 hN
      clear hkd hrw htx
      go_wp2_with (go_at_call 8; refine hBr2.out.mono ?_; rintro e w2 ⟨rfl, hbw2⟩)
      all_goals
        go_ret
        refine ⟨ret_bool ?_, ?_⟩
        · rw [hN.out]; clear hN; simp [*]
        · first | exact hbw | exact hbw.trans (hbw2.mono hbw.size)
    · have hN : Hid (namedB t n = false) := by
        show _ = _; unfold namedB; rw [hsp, ← hl]
        split
        · rename_i h; have := congrArg (fun o => (o.getD []).length) h; simp at this; exact absurd this h2
        · rfl
      obtain ⟨m, hm⟩ : ∃ m, ts.length = m := ⟨_, rfl⟩
      rw [hm]
      rw [hm] at h2
      have hm2 : ((m : Int) == 2) = false := by simp; omega
      clear hrow hl hsp hBr hL hm
      go_wp2_with fail
      go_ret
      exact ⟨ret_bool hN.out.symm, hbw⟩
end Go.Proofs.YtkhjenlclpcehaaDoor
