/- The parser's words and numerals. Condition: the text is of ASCII without blanks, at most 2^24 letters; the table of letters holds what it was laid with. -/
import Derived.Test.YthpianlilipggaaGreatDoorVe
namespace Go.Proofs.YthpianlilipggaaGreatDoor
open Go.RowKit Go.PlainAid

theorem isLetter_c (c : UInt8) (W : World) (h : cln c = true) (ht : Lib.TabIs Tryz.prog W "unicode.properties" .u8 Lib.propertiesTab) : Calls Tryz.prog 42 #[.int .i32 (c.toNat : Int)] W fun e w' => e = .returned (.bool (lch c)) ∧ W = w' := by
  have h2 := cln_lt h
  refine (Tryz.unicode_IsLetter c.toNat W (by omega) ht).mono ?_
  rintro e w' ⟨rfl, rfl⟩
  refine ⟨ret_bool ?_, rfl⟩
  apply bool_ext
  unfold Lib.isLetterL Lib.isUpperL Lib.isLowerL lch
  simp only [Bool.or_eq_true, Bool.and_eq_true, decide_eq_true_eq]
  omega
theorem isDigit_c (c : UInt8) (W : World) : Calls Tryz.prog 40 #[.int .i32 (c.toNat : Int)] W fun e w' => e = .returned (.bool (dch c)) ∧ W = w' := by
  have h2 := UInt8.toNat_lt c
  refine (Tryz.unicode_IsDigit (c.toNat : Int) W (by omega)).mono ?_
  rintro e w' ⟨rfl, rfl⟩
  refine ⟨ret_bool ?_, rfl⟩
  apply bool_ext
  unfold Lib.isDigitL dch
  simp only [Bool.and_eq_true, decide_eq_true_eq]
  omega
/-- No letter of a name stands next. -/
def stp (r : Bs) : Bool := match r with
  | [] => true
  | c :: _ => !wch c
theorem drop_at {src v r : Bs} {off j : Nat} (hd : src.drop off = v ++ r) (hj : j < v.length) : src[off + j]? = some (v[j]'hj) := by
  have := congrArg (fun l => l[j]?) hd
  simp only [List.getElem?_drop] at this
  rw [this, List.getElem?_append_left hj, List.getElem?_eq_getElem hj]
theorem drop_past {src v r : Bs} {off : Nat} (hd : src.drop off = v ++ r) : src.drop (off + v.length) = r := by
  rw [← List.drop_drop, hd]
  simp
theorem drop_len {src v r : Bs} {off : Nat} (hd : src.drop off = v ++ r) (hle : off ≤ src.length) : off + v.length + r.length = src.length := by
  have := congrArg List.length hd
  rw [List.length_drop, List.length_append] at this
  omega
theorem drop_take {src v r : Bs} {off : Nat} (hd : src.drop off = v ++ r) : (src.drop off).take v.length = v := by
  rw [hd]; simp
/-- What consumeVar leaves. -/
def VarPost (B b g cap : Nat) (src : Bs) (off : Nat) (v : Bs) (w : World) (e : Ending) (w' : World) : Prop :=
  ∃ k, e = .returned (ptr k) ∧ VarAt w' k v ∧ PsAt w' B b g cap src (off + v.length) ∧ Only b w w'
set_option maxHeartbeats 4000000 in
set_option maxRecDepth 20000 in
theorem consumeVar_c {w : World} {B b g cap off : Nat} {src : Bs} (v r : Bs) (h : PsAt w B b g cap src off) (hd : src.drop off = v ++ r) (hv : nameOk v = true) (hr : stp r = true) :
    Calls Tryz.prog 38 #[.pointer (some ⟨b, 0, none⟩)] w (VarPost B b g cap src off v w) := by
  have hvp := name_pos hv
  have hlen := drop_len hd h.le
  have hsm := h.small
  have hcL := h.capL
  have hcS := h.capS
  have Hcl := Lib.hid (fun j (hj : j < src.length) => List.all_eq_true.1 h.clean (src[j]) (List.getElem_mem hj))
  have Hat := Lib.hid (fun j (hj : j < v.length) => drop_at hd hj)
  have Hw := Lib.hid (name_wch hv)
  have hc0 : src[off]? = some (v[0]'hvp) := by have := drop_at hd hvp; simpa using this
  have hl0 : lch (v[0]'hvp) = true := by
    cases v with
    | nil => cases hv
    | cons a t => simp only [nameOk, Bool.and_eq_true] at hv; exact hv.1
  have hcl0 : cln (v[0]'hvp) = true := wch_cln (by simp [wch, hl0])
  have Heof := Lib.hid (eof_c h)
  have Hcur := Lib.hid (fun n => current_c _ (h.drewN n) hc0)
  have Hlet := Lib.hid (fun n => isLetter_c (v[0]'hvp) (w.drewN n) hcl0 (h.drewN n).tab.here)
  rw [hl0] at Hlet
  have hle0 : decide (src.length ≤ off) = false := decide_eq_false (by omega)
  rw [hle0] at Heof
  have H0 := Lib.hid (fun n => h.drewN n)
  have hc1 := h.cell1
  have Hd := Lib.hid hd
  clear hc0 hl0 hcl0 hle0 h hd hv
  go_enter Tryz.func38, Tryz.ntmps38
  go_wp2_with (first
    | (go_at_call 21; refine Heof.out.mono ?_; rintro e w' ⟨rfl, n1, rfl⟩)
    | (go_at_call 25; refine (Hcur.out _).mono ?_; rintro e w' ⟨rfl, n2, rfl⟩)
    | (go_at_call 42; refine (Hlet.out _).mono ?_; rintro e w' ⟨rfl, rfl⟩))
  clear hc1 Heof Hcur Hlet
  go_loopw [] (fun wr => ∃ j : Nat, j ≤ v.length ∧ PsAt wr B b g cap src (off + j) ∧ Only b w wr) (fun wr => match wr.cell? ⟨b, 1, none⟩ with | some (.int .i64 p) => src.length - p.toNat | _ => 0)
  case atStart => exact ⟨0, Nat.zero_le _, H0.out _, (Only.refl b w).drewN _⟩
  case round =>
    obtain ⟨j, hj, hp, ho⟩ := hrel
    by_cases hlt : j < v.length
    · have hcj := Hat.out j hlt
      have hwc := Hw.out (v[j]'hlt) (List.getElem_mem hlt)
      generalize v[j]'hlt = c at hcj hwc
      have hclc := wch_cln hwc
      have heof := eof_c hp
      rw [decide_eq_false (show ¬ src.length ≤ off + j by omega)] at heof
      have Heof := Lib.hid heof
      have Hcur := Lib.hid (fun n => current_c c (hp.drewN n) hcj)
      have Hlet := Lib.hid (fun n => isLetter_c c (wr.drewN n) hclc (hp.drewN n).tab.here)
      have Hdig := Lib.hid (fun n => isDigit_c c (wr.drewN n))
      have Hnx := Lib.hid (fun n => next_c (hp.drewN n) (show off + j < src.length by omega))
      have Hc1 := Lib.hid hp.cell1
      have Ho := Lib.hid (fun n => ho.drewN n)
      clear hcj hclc heof hp ho H0
      have hways : (lch c = true) ∨ (lch c = false ∧ c = 95) ∨ (lch c = false ∧ ((c.toNat : Int) == 95) = false ∧ ((c.toNat : Int) != 95) = true ∧ dch c = true) := by
        cases h1 : lch c with
        | true => exact Or.inl rfl
        | false =>
          by_cases h2 : c = 95
          · exact Or.inr (Or.inl ⟨rfl, h2⟩)
          · have h3 : ((c.toNat : Int) == 95) = false := by
              rw [beq_eq_false_iff_ne]
              intro e
              apply h2
              apply UInt8.toNat_inj.1
              have : (95 : UInt8).toNat = 95 := rfl
              omega
            refine Or.inr (Or.inr ⟨rfl, h3, by simp [bne, h3], ?_⟩)
            have h4 : (c == 95) = false := by simpa using h2
            simpa [wch, h1, h4] using hwc
      clear hwc
      rcases hways with h1 | ⟨h1, rfl⟩ | ⟨h1, h2, h3, h4⟩
      all_goals
        rw [h1] at Hlet
        try rw [h4] at Hdig
        clear h1
        try clear h4
        go_wp2_with (first
          | (go_at_call 21; refine Heof.out.mono ?_; rintro e w' ⟨rfl, n3, rfl⟩)
          | (go_at_call 25; refine (Hcur.out _).mono ?_; rintro e w' ⟨rfl, n4, rfl⟩)
          | (go_at_call 42; refine (Hlet.out _).mono ?_; rintro e w' ⟨rfl, rfl⟩)
          | (go_at_call 40; refine (Hdig.out _).mono ?_; rintro e w' ⟨rfl, rfl⟩))
        refine (Hnx.out _).mono ?_
        rintro e w' ⟨rfl, hp2, ho2⟩
        have H2 := Lib.hid (And.intro hp2 ho2)
        clear hp2 ho2
        go_wp2_with fail
        refine ⟨⟨j + 1, hlt, H2.out.1, (Ho.out _).trans H2.out.2⟩, ?_⟩
        rw [Hc1.out, H2.out.1.cell1]
        simp
        omega
    · have ej : j = v.length := by omega
      subst ej
      have hcv := fun n c => part_c hp off v.length c (by omega) n
      rw [drop_take Hd.out] at hcv
      have Hcv := Lib.hid hcv
      have Hsk := Lib.hid (fun n => skip_c (hp.drewN n))
      have Hp := Lib.hid (fun n => hp.drewN n)
      have Ho := Lib.hid (fun n => ho.drewN n)
      have hc0 := hp.cell0
      have hc1 := hp.cell1
      have hi0 : (0 : Int) ≤ (off : Int) := by omega
      have hi1 : (off : Int) ≤ (off : Int) + (v.length : Int) := by omega
      have hi2 : (off : Int) + (v.length : Int) ≤ (cap : Int) := by omega
      have hne : cap ≠ off := by omega
      have heof := eof_c hp
      have hend := drop_past Hd.out
      clear hcv H0
      cases r with
      | nil =>
        have hz : src.length ≤ off + v.length := by simp at hlen; omega
        rw [decide_eq_true hz] at heof
        have Heof := Lib.hid heof
        clear heof hp ho hz
        go_wp2_with (go_at_call 21; refine Heof.out.mono ?_; rintro e w' ⟨rfl, n3, rfl⟩)
        have hcv := Hcv.out
        go_quiet (fail)
        clear hcv hc0 hc1
        go_wp2_with fail
        refine (Hsk.out _).mono ?_
        rintro e w' ⟨rfl, n9, rfl⟩
        go_wp2_with fail
        go_ret
        exact ⟨_, rfl, atB_new _ _ _, (Hp.out _).alloc _, (Ho.out _).alloc _⟩
      | cons d r =>
        have hd2 : src[off + v.length]? = some d := by
          have := congrArg (fun l => l[0]?) hend
          simpa using this
        have hlt2 : off + v.length < src.length := (List.getElem?_eq_some_iff.1 hd2).1
        have hcl2 : cln d = true := by
          have := Hcl.out _ hlt2
          rwa [(List.getElem?_eq_some_iff.1 hd2).2] at this
        have hw2 : wch d = false := by simpa [stp] using hr
        have hl2 : lch d = false := by simp [wch] at hw2; exact hw2.1.1
        have hg2 : dch d = false := by simp [wch] at hw2; exact hw2.1.2
        have hn2 : d ≠ 95 := by simp [wch] at hw2; exact hw2.2
        have h2 : ((d.toNat : Int) == 95) = false := by
          rw [beq_eq_false_iff_ne]
          intro e
          apply hn2
          apply UInt8.toNat_inj.1
          have : (95 : UInt8).toNat = 95 := rfl
          omega
        have h3 : ((d.toNat : Int) != 95) = true := by simp [bne, h2]
        rw [decide_eq_false (show ¬ src.length ≤ off + v.length by omega)] at heof
        have Heof := Lib.hid heof
        have Hcur := Lib.hid (fun n => current_c d (hp.drewN n) hd2)
        have hlet := fun n => isLetter_c d (wr.drewN n) hcl2 (hp.drewN n).tab.here
        have hdig := fun n => isDigit_c d (wr.drewN n)
        rw [hl2] at hlet
        rw [hg2] at hdig
        have Hlet := Lib.hid hlet
        have Hdig := Lib.hid hdig
        clear hlet hdig hl2 hg2 hn2 hw2 hcl2 hd2 hend heof hp ho
        go_wp2_with (first
          | (go_at_call 21; refine Heof.out.mono ?_; rintro e w' ⟨rfl, n3, rfl⟩)
          | (go_at_call 25; refine (Hcur.out _).mono ?_; rintro e w' ⟨rfl, n4, rfl⟩)
          | (go_at_call 42; refine (Hlet.out _).mono ?_; rintro e w' ⟨rfl, rfl⟩)
          | (go_at_call 40; refine (Hdig.out _).mono ?_; rintro e w' ⟨rfl, rfl⟩))
        have hcv := Hcv.out
        go_quiet (fail)
        clear hcv hc0 hc1
        go_wp2_with fail
        refine (Hsk.out _).mono ?_
        rintro e w' ⟨rfl, n9, rfl⟩
        go_wp2_with fail
        go_ret
        exact ⟨_, rfl, atB_new _ _ _, (Hp.out _).alloc _, (Ho.out _).alloc _⟩

set_option maxHeartbeats 1000000 in
theorem parseVar_c {w : World} {B b g cap off : Nat} {src : Bs} (v r : Bs) (h : PsAt w B b g cap src off) (hd : src.drop off = v ++ r) (hv : nameOk v = true) (hr : stp r = true) :
    Calls Tryz.prog 35 #[.pointer (some ⟨b, 0, none⟩)] w (VarPost B b g cap src off v w) := by
  have Hc := Lib.hid (consumeVar_c v r h hd hv hr)
  clear h hd hv hr
  go_enter Tryz.func35, Tryz.ntmps35
  go_wp2_with fail
  refine Hc.out.mono ?_
  rintro e w' ⟨k, rfl, h⟩
  have H := Lib.hid h
  clear h
  unfold ptr
  go_wp2_with fail
  go_ret
  exact ⟨k, rfl, H.out⟩

/-- What consumeIntLiteral leaves at a numeral. -/
def LitPost (B b g cap : Nat) (src : Bs) (off n : Nat) (w : World) (e : Ending) (w' : World) : Prop :=
  ∃ k, e = .returned (ptr k) ∧ AtB w' k 96 #[.int .i64 (n : Int)] ∧ PsAt w' B b g cap src (off + (Lib.decDigits n).length) ∧ Only b w w'
set_option maxHeartbeats 1000000 in
theorem consumeInt_no {w : World} {B b g cap off : Nat} {src : Bs} (c : UInt8) (h : PsAt w B b g cap src off) (hc : src[off]? = some c) (hd : dch c = false) :
    Calls Tryz.prog 37 #[.pointer (some ⟨b, 0, none⟩)] w fun e w' => e = .returned (.pointer none) ∧ PsAt w' B b g cap src off ∧ Only b w w' := by
  have hlt : off < src.length := (List.getElem?_eq_some_iff.1 hc).1
  have heof := eof_c h
  rw [decide_eq_false (show ¬ src.length ≤ off by omega)] at heof
  have Heof := Lib.hid heof
  have Hcur := Lib.hid (fun n => current_c c (h.drewN n) hc)
  have hdig := fun n => isDigit_c c (w.drewN n)
  rw [hd] at hdig
  have Hdig := Lib.hid hdig
  have Hp := Lib.hid (fun n => And.intro (h.drewN n) ((Only.refl b w).drewN n))
  clear h hc hd heof hdig
  go_enter Tryz.func37, Tryz.ntmps37
  go_wp2_with (first
    | (go_at_call 21; refine Heof.out.mono ?_; rintro e w' ⟨rfl, n1, rfl⟩)
    | (go_at_call 25; refine (Hcur.out _).mono ?_; rintro e w' ⟨rfl, n2, rfl⟩)
    | (go_at_call 40; refine (Hdig.out _).mono ?_; rintro e w' ⟨rfl, rfl⟩))
  go_ret
  exact ⟨rfl, Hp.out _⟩
end Go.Proofs.YthpianlilipggaaGreatDoor
