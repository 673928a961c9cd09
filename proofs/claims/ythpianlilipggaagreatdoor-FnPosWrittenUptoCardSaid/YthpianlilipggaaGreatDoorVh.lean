/- The parser's signs of one and two letters, and its numerals. Condition: the text is of ASCII without blanks, at most 2^24 letters; the table of letters holds what it was laid with. -/
import Derived.Test.YthpianlilipggaaGreatDoorVf
import Derived.Test.YthpianlilipggaaGreatDoorShe
import Derived.Lib.ConvBytes
namespace Go.Proofs.YthpianlilipggaaGreatDoor
open Go.RowKit Go.PlainAid

theorem eat1_yes {w : World} {B b g cap off : Nat} {src r : Bs} (x : UInt8) (h : PsAt w B b g cap src off) (hd : src.drop off = [x] ++ r) :
    Calls Tryz.prog 28 #[.pointer (some ⟨b, 0, none⟩), .string ⟨#[x]⟩] w fun e w' => e = .returned (.bool true) ∧ PsAt w' B b g cap src (off + 1) ∧ Only b w w' := by
  have hl : (⟨#[x]⟩ : ByteArray).toList = [x] := by rw [ByteArray.toList_eq]
  refine (consume_c ⟨#[x]⟩ h (by show 1 ≤ 1; omega) (by show 1 ≤ 2; omega)).mono fun e w' k => ?_
  have := eat_yes k (by rw [hl]; exact hd)
  rw [hl] at this
  exact this
theorem atB_no {src : Bs} {off : Nat} {x : UInt8} {l : Bs} (hd : (src.drop off).head? ≠ some x) : atB src off (x :: l) = false := by
  unfold atB
  rw [decide_eq_false_iff_not]
  intro e
  apply hd
  cases h : src.drop off with
  | nil => rw [h] at e; cases e
  | cons c t =>
    rw [h] at e
    simp only [List.length_cons, List.take_succ_cons, List.cons.injEq] at e
    rw [e.1]
    rfl
theorem eat1_no {w : World} {B b g cap off : Nat} {src : Bs} (x : UInt8) (h : PsAt w B b g cap src off) (hd : (src.drop off).head? ≠ some x) :
    Calls Tryz.prog 28 #[.pointer (some ⟨b, 0, none⟩), .string ⟨#[x]⟩] w fun e w' => e = .returned (.bool false) ∧ PsAt w' B b g cap src off ∧ Only b w w' := by
  have hl : (⟨#[x]⟩ : ByteArray).toList = [x] := by rw [ByteArray.toList_eq]
  exact (consume_c ⟨#[x]⟩ h (by show 1 ≤ 1; omega) (by show 1 ≤ 2; omega)).mono fun e w' k => eat_no k (by rw [hl]; exact atB_no hd)
theorem eat2_yes {w : World} {B b g cap off : Nat} {src r : Bs} (x y : UInt8) (h : PsAt w B b g cap src off) (hd : src.drop off = [x, y] ++ r) :
    Calls Tryz.prog 28 #[.pointer (some ⟨b, 0, none⟩), .string ⟨#[x, y]⟩] w fun e w' => e = .returned (.bool true) ∧ PsAt w' B b g cap src (off + 2) ∧ Only b w w' := by
  have hl : (⟨#[x, y]⟩ : ByteArray).toList = [x, y] := by rw [ByteArray.toList_eq]
  refine (consume_c ⟨#[x, y]⟩ h (by show 1 ≤ 2; omega) (by show 2 ≤ 2; omega)).mono fun e w' k => ?_
  have := eat_yes k (by rw [hl]; exact hd)
  rw [hl] at this
  exact this
theorem eat2_no {w : World} {B b g cap off : Nat} {src : Bs} (x y : UInt8) (h : PsAt w B b g cap src off) (hd : (src.drop off).head? ≠ some x) :
    Calls Tryz.prog 28 #[.pointer (some ⟨b, 0, none⟩), .string ⟨#[x, y]⟩] w fun e w' => e = .returned (.bool false) ∧ PsAt w' B b g cap src off ∧ Only b w w' := by
  have hl : (⟨#[x, y]⟩ : ByteArray).toList = [x, y] := by rw [ByteArray.toList_eq]
  exact (consume_c ⟨#[x, y]⟩ h (by show 1 ≤ 2; omega) (by show 2 ≤ 2; omega)).mono fun e w' k => eat_no k (by rw [hl]; exact atB_no hd)
theorem expect1_c {w : World} {B b g cap off : Nat} {src r : Bs} (x : UInt8) (h : PsAt w B b g cap src off) (hd : src.drop off = [x] ++ r) :
    Calls Tryz.prog 36 #[.pointer (some ⟨b, 0, none⟩), .string ⟨#[x]⟩] w fun e w' => e = .returned (.tuple #[]) ∧ PsAt w' B b g cap src (off + 1) ∧ Only b w w' := by
  have hl : (⟨#[x]⟩ : ByteArray).toList = [x] := by rw [ByteArray.toList_eq]
  have := expect_c ⟨#[x]⟩ h (by show 1 ≤ 1; omega) (by show 1 ≤ 2; omega) (by rw [hl]; exact hd)
  rw [hl] at this
  exact this

set_option maxHeartbeats 4000000 in
set_option maxRecDepth 20000 in
theorem consumeInt_c {w : World} {B b g cap off : Nat} {src : Bs} (n : Nat) (r : Bs) (h : PsAt w B b g cap src off) (hd : src.drop off = Lib.decDigits n ++ r) (hn : n < 1099511627776) (hr : stp r = true) :
    Calls Tryz.prog 37 #[.pointer (some ⟨b, 0, none⟩)] w (LitPost B b g cap src off n w) := by
  have hat := atoi_dec n
  have h13 := dec_len13 hn
  have hdd := dec_dch n
  have hvp := dec_pos n
  unfold LitPost
  generalize Lib.decDigits n = v at *
  have hlen := drop_len hd h.le
  have hsm := h.small
  have hcL := h.capL
  have hcS := h.capS
  have Hat := Lib.hid (fun j (hj : j < v.length) => drop_at hd hj)
  have Hw := Lib.hid hdd
  have hc0 : src[off]? = some (v[0]'hvp) := by have := drop_at hd hvp; simpa using this
  have hl0 : dch (v[0]'hvp) = true := hdd _ (List.getElem_mem _)
  have Heof := Lib.hid (eof_c h)
  have Hcur := Lib.hid (fun n => current_c _ (h.drewN n) hc0)
  have Hdig := Lib.hid (fun n => isDigit_c (v[0]'hvp) (w.drewN n))
  rw [hl0] at Hdig
  have hle0 : decide (src.length ≤ off) = false := decide_eq_false (by omega)
  rw [hle0] at Heof
  have H0 := Lib.hid (fun n => h.drewN n)
  have hc1 := h.cell1
  have Hd := Lib.hid hd
  have Hatoi := Lib.hid (fun W => (Tryz.strconv_Atoi ⟨v.toArray⟩ (n : Int) (by show v.toArray.size ≤ 18; simp; omega) hat W).mono fun e w' k => (show e = .returned (.tuple #[.int .i64 (n : Int), .nilIface]) ∧ Below W.heap.size W w' from ⟨k.1, by obtain ⟨_, t, rfl⟩ := k; exact ⟨rfl, rfl, rfl, by rw [Lib.bytesWorld_size]; omega, fun k hk => Lib.bytesWorld_at_old W _ t k hk⟩⟩))
  have Hfin := Lib.hid (fun (k : Nat) (w' : World) (h1 : AtB w' k 96 #[.int .i64 (n : Int)]) (h2 : PsAt w' B b g cap src (off + v.length)) (h3 : Only b w w') => (⟨k, rfl, h1, h2, h3⟩ : ∃ k', Ending.returned (ptr k) = .returned (ptr k') ∧ AtB w' k' 96 #[.int .i64 (n : Int)] ∧ PsAt w' B b g cap src (off + v.length) ∧ Only b w w'))
  clear hc0 hl0 hle0 h hd hdd hat
  go_enter Tryz.func37, Tryz.ntmps37
  go_wp2_with (first
    | (go_at_call 21; refine Heof.out.mono ?_; rintro e w' ⟨rfl, n1, rfl⟩)
    | (go_at_call 25; refine (Hcur.out _).mono ?_; rintro e w' ⟨rfl, n2, rfl⟩)
    | (go_at_call 40; refine (Hdig.out _).mono ?_; rintro e w' ⟨rfl, rfl⟩))
  clear hc1 Heof Hcur Hdig
  go_loopw [] (fun wr => ∃ j : Nat, j ≤ v.length ∧ PsAt wr B b g cap src (off + j) ∧ Only b w wr) (fun wr => match wr.cell? ⟨b, 1, none⟩ with | some (.int .i64 p) => src.length - p.toNat | _ => 0)
  case atStart => exact ⟨0, Nat.zero_le _, H0.out _, (Only.refl b w).drewN _⟩
  case round =>
    obtain ⟨j, hj, hp, ho⟩ := hrel
    by_cases hlt : j < v.length
    · have hcj := Hat.out j hlt
      have hwc := Hw.out (v[j]'hlt) (List.getElem_mem hlt)
      generalize v[j]'hlt = c at hcj hwc
      have heof := eof_c hp
      rw [decide_eq_false (show ¬ src.length ≤ off + j by omega)] at heof
      have hdig := fun n => isDigit_c c (wr.drewN n)
      rw [hwc] at hdig
      have Heof := Lib.hid heof
      have Hcur := Lib.hid (fun n => current_c c (hp.drewN n) hcj)
      have Hdig := Lib.hid hdig
      have Hnx := Lib.hid (fun n => next_c (hp.drewN n) (show off + j < src.length by omega))
      have Hc1 := Lib.hid hp.cell1
      have Ho := Lib.hid (fun n => ho.drewN n)
      clear hcj heof hp ho H0 hdig hwc
      go_wp2_with (first
        | (go_at_call 21; refine Heof.out.mono ?_; rintro e w' ⟨rfl, n3, rfl⟩)
        | (go_at_call 25; refine (Hcur.out _).mono ?_; rintro e w' ⟨rfl, n4, rfl⟩)
        | (go_at_call 40; refine (Hdig.out _).mono ?_; rintro e w' ⟨rfl, rfl⟩))
      refine (Hnx.out _).mono ?_
      rintro e w' ⟨rfl, hp2, ho2⟩
      have H2 := Lib.hid (And.intro hp2 ho2)
      clear hp2 ho2
      go_wp2_with fail
      refine ⟨⟨j + 1, hlt, H2.out.1, (Ho.out _).trans H2.out.2⟩, ?_⟩
      rw [Hc1.out, H2.out.1.cell1]
      simp
      omega
    · have ej : j = v.length := by omega
      subst ej
      have hcv := fun n c => part_c hp off v.length c (by omega) n
      rw [drop_take Hd.out] at hcv
      have Hcv := Lib.hid hcv
      have Hp := Lib.hid (fun n => hp.drewN n)
      have Ho := Lib.hid (fun n => ho.drewN n)
      have hc0 := hp.cell0
      have hc1 := hp.cell1
      have hi0 : (0 : Int) ≤ (off : Int) := by omega
      have hi1 : (off : Int) ≤ (off : Int) + (v.length : Int) := by omega
      have hi2 : (off : Int) + (v.length : Int) ≤ (cap : Int) := by omega
      have hne : cap ≠ off := by omega
      have heof := eof_c hp
      have hend := drop_past Hd.out
      clear hcv H0
      cases r with
      | nil =>
        have hz : src.length ≤ off + v.length := by simp at hlen; omega
        rw [decide_eq_true hz] at heof
        have Heof := Lib.hid heof
        clear heof hp ho hz hend
        go_wp2_with (go_at_call 21; refine Heof.out.mono ?_; rintro e w' ⟨rfl, n3, rfl⟩)
        have hcv := Hcv.out
        go_quiet (fail)
        clear hcv hc0 hc1
        go_wp2_with fail
        refine (Hatoi.out _).mono ?_
        rintro e w5 ⟨rfl, hb5⟩
        have Hp5 := Lib.hid ((Hp.out _).below hb5)
        have Ho5 := Lib.hid ((Ho.out _).trans (Only.of_below hb5))
        clear hb5
        go_wp2_with fail
        refine (skip_c Hp5.out).mono ?_
        rintro e w6 ⟨rfl, n6, rfl⟩
        go_wp2_with fail
        go_ret
        exact Hfin.out _ _ (atB_new _ _ _) ((Hp5.out.drewN n6).alloc _) ((Ho5.out.drewN n6).alloc _)
      | cons d r =>
        have hd2 : src[off + v.length]? = some d := by
          have := congrArg (fun l => l[0]?) hend
          simpa using this
        have hlt2 : off + v.length < src.length := (List.getElem?_eq_some_iff.1 hd2).1
        have hw2 : wch d = false := by simpa [stp] using hr
        have hg2 : dch d = false := by simp [wch] at hw2; exact hw2.1.2
        rw [decide_eq_false (show ¬ src.length ≤ off + v.length by omega)] at heof
        have Heof := Lib.hid heof
        have Hcur := Lib.hid (fun n => current_c d (hp.drewN n) hd2)
        have hdig := fun n => isDigit_c d (wr.drewN n)
        rw [hg2] at hdig
        have Hdig := Lib.hid hdig
        clear hdig hg2 hw2 hd2 hend heof hp ho
        go_wp2_with (first
          | (go_at_call 21; refine Heof.out.mono ?_; rintro e w' ⟨rfl, n3, rfl⟩)
          | (go_at_call 25; refine (Hcur.out _).mono ?_; rintro e w' ⟨rfl, n4, rfl⟩)
          | (go_at_call 40; refine (Hdig.out _).mono ?_; rintro e w' ⟨rfl, rfl⟩))
        have hcv := Hcv.out
        go_quiet (fail)
        clear hcv hc0 hc1
        go_wp2_with fail
        refine (Hatoi.out _).mono ?_
        rintro e w5 ⟨rfl, hb5⟩
        have Hp5 := Lib.hid ((Hp.out _).below hb5)
        have Ho5 := Lib.hid ((Ho.out _).trans (Only.of_below hb5))
        clear hb5
        go_wp2_with fail
        refine (skip_c Hp5.out).mono ?_
        rintro e w6 ⟨rfl, n6, rfl⟩
        go_wp2_with fail
        go_ret
        exact Hfin.out _ _ (atB_new _ _ _) ((Hp5.out.drewN n6).alloc _) ((Ho5.out.drewN n6).alloc _)
end Go.Proofs.YthpianlilipggaaGreatDoor
