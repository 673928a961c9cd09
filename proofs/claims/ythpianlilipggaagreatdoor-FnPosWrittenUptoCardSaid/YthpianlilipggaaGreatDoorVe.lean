/- The parser's small methods: its place, a letter, blanks, a given sign. Condition: the text is of ASCII without blanks, at most 2^24 letters. -/
import Derived.Test.YthpianlilipggaaGreatDoorVd
import Derived.Test.YthpianlilipggaaGreatDoorSh
import Derived.Deep.QuietTactic
import Derived.BigQuiet
import Derived.RegionTactic
import Derived.LoopN
namespace Go.Proofs.YthpianlilipggaaGreatDoor
open Go.RowKit Go.PlainAid

section
variable {w : World} {B b g cap off : Nat} {src : Bs}
set_option maxHeartbeats 1000000 in
theorem eof_c (h : PsAt w B b g cap src off) :
    Calls Tryz.prog 21 #[.pointer (some ⟨b, 0, none⟩)] w fun e w' => e = .returned (.bool (decide (src.length ≤ off))) ∧ ∃ n, w' = w.drewN n := by
  have c0 := h.cell0
  have c1 := h.cell1
  have hs := h.small
  have hl := h.le
  clear h
  go_enter Tryz.func21, Tryz.ntmps21
  go_wp2_with fail
  go_quiet (fail)
  go_wp2_with fail
  go_ret
  refine ⟨ret_bool (bool_ext ?_), _, rfl⟩
  simp
set_option maxHeartbeats 1000000 in
theorem current_c (c : UInt8) (h : PsAt w B b g cap src off) (hc : src[off]? = some c) :
    Calls Tryz.prog 25 #[.pointer (some ⟨b, 0, none⟩)] w fun e w' => e = .returned (.int .i32 (c.toNat : Int)) ∧ ∃ n, w' = w.drewN n := by
  have c0 := h.cell0
  have c1 := h.cell1
  have cr := h.rune off c hc
  unfold rn at cr
  have hs := h.small
  have hlt : off < src.length := (List.getElem?_eq_some_iff.1 hc).1
  have hi0 : (0 : Int) ≤ (off : Int) := by omega
  have hi1 : (off : Int) < (src.length : Int) := by omega
  clear h hc
  go_enter Tryz.func25, Tryz.ntmps25
  go_wp2_with fail
  go_quiet (fail)
  go_wp2_with fail
  go_ret
  exact ⟨rfl, _, rfl⟩
set_option maxHeartbeats 1000000 in
theorem next_c (h : PsAt w B b g cap src off) (hlt : off < src.length) :
    Calls Tryz.prog 26 #[.pointer (some ⟨b, 0, none⟩)] w fun e w' => e = .returned (.tuple #[]) ∧ PsAt w' B b g cap src (off + 1) ∧ Only b w w' := by
  have c1 := h.cell1
  have f1 := h.free 1
  have hs := h.small
  have H := Lib.hid h
  clear h
  go_enter Tryz.func26, Tryz.ntmps26
  go_wp2_with fail
  go_end0
  exact ⟨rfl, H.out.set (off + 1) hlt, (Only.refl b w).setCell 1 _⟩
end
theorem isSpace_c (c : UInt8) (W : World) (h : cln c = true) : Calls Tryz.prog 24 #[.int .i32 (c.toNat : Int)] W fun e w' => e = .returned (.bool false) ∧ W = w' := by
  have h2 := cln_lt h
  simp only [cln, Bool.and_eq_true, decide_eq_true_eq] at h
  refine (Tryz.unicode_IsSpace (c.toNat : Int) W (by omega) (by omega)).mono ?_
  rintro e w' ⟨rfl, rfl⟩
  refine ⟨ret_bool ?_, rfl⟩
  unfold Lib.isSpaceL
  exact decide_eq_false (by omega)
set_option maxHeartbeats 2000000 in
theorem skip_c {w : World} {B b g cap off : Nat} {src : Bs} (h : PsAt w B b g cap src off) :
    Calls Tryz.prog 19 #[.pointer (some ⟨b, 0, none⟩)] w fun e w' => e = .returned (.tuple #[]) ∧ ∃ n, w' = w.drewN n := by
  have heof := eof_c h
  by_cases hlt : off < src.length
  · rw [decide_eq_false (show ¬ src.length ≤ off by omega)] at heof
    have hcl := List.all_eq_true.1 h.clean (src[off]) (List.getElem_mem hlt)
    have hcur := fun n => current_c src[off] (h.drewN n) (List.getElem?_eq_getElem hlt)
    generalize src[off] = c at hcl hcur
    have Heof := Lib.hid heof
    have Hcur := Lib.hid hcur
    clear heof hcur h
    go_enter Tryz.func19, Tryz.ntmps19
    go_wp2_with fail
    refine wp_loop_rounds 1 ?_
    rw [rounds_succ]
    go_wp2_with (first
      | (go_at_call 21; refine Heof.out.mono ?_; rintro e w' ⟨rfl, n1, rfl⟩)
      | (go_at_call 25; refine (Hcur.out _).mono ?_; rintro e w' ⟨rfl, n2, rfl⟩)
      | (go_at_call 24; refine (isSpace_c c _ hcl).mono ?_; rintro e w' ⟨rfl, rfl⟩))
    go_end0
    exact ⟨rfl, _, rfl⟩
  · rw [decide_eq_true (show src.length ≤ off by omega)] at heof
    have Heof := Lib.hid heof
    clear heof h
    go_enter Tryz.func19, Tryz.ntmps19
    go_wp2_with fail
    refine wp_loop_rounds 1 ?_
    rw [rounds_succ]
    go_wp2_with (go_at_call 21; refine Heof.out.mono ?_; rintro e w' ⟨rfl, n1, rfl⟩)
    go_end0
    exact ⟨rfl, _, rfl⟩

/-- Does this sign stand at the place? -/
def atB (src : Bs) (off : Nat) (l : Bs) : Bool := decide ((src.drop off).take l.length = l)
/-- What consume leaves. -/
def EatPost (B b g cap : Nat) (src : Bs) (off : Nat) (l : Bs) (w : World) (e : Ending) (w' : World) : Prop :=
  if atB src off l = true then e = .returned (.bool true) ∧ PsAt w' B b g cap src (off + l.length) ∧ Only b w w'
  else e = .returned (.bool false) ∧ PsAt w' B b g cap src off ∧ Only b w w'
/-- The text of some runes of the parser's row. -/
theorem part_c {w : World} {B b g cap off : Nat} {src : Bs} (h : PsAt w B b g cap src off) (i k c : Nat) (hk : i + k ≤ src.length) (n : Nat) :
    (convert 51 9 (.slice (some ⟨g, i, none⟩) k c)).run Tryz.prog (w.drewN n) = .ok (.string ⟨((src.drop i).take k).toArray⟩) (w.drewN n) := by
  have hz : ∀ d ∈ (src.drop i).take k, d.toNat < 128 := fun d hd => cln_lt (List.all_eq_true.1 h.clean d (List.mem_of_mem_drop (List.mem_of_mem_take hd)))
  have hl : ((src.drop i).take k).length = k := by rw [List.length_take, List.length_drop]; omega
  have := run_convert_runes (P := Tryz.prog) (w.drewN n) 51 9 21 ⟨g, i, none⟩ k c (((src.drop i).take k).map fun c => (c.toNat : Int)) (by rw [List.length_map, hl]; exact Nat.le_refl k) Tryz.underlying51 Tryz.underlying21 Tryz.underlying9 (fun j hj => by
    rw [List.length_map, hl] at hj
    have ha : (⟨g, i, none⟩ : Addr).add j = ⟨g, i + j, none⟩ := by unfold Addr.add; split <;> simp_all
    have hj2 : i + j < src.length := by omega
    rw [ha]
    have hr := (h.drewN n).rune (i + j) src[i + j] (List.getElem?_eq_getElem hj2)
    rw [hr, rn]
    congr 2
    rw [List.getD_eq_getElem?_getD, List.getElem?_map, List.getElem?_take, if_pos hj, List.getElem?_drop, List.getElem?_eq_getElem hj2]
    rfl)
  rw [this, List.take_of_length_le (by rw [List.length_map, hl]; exact Nat.le_refl k), runesBytes_map _ hz]
set_option maxHeartbeats 2000000 in
theorem consume_c {w : World} {B b g cap off : Nat} {src : Bs} (s : ByteArray) (h : PsAt w B b g cap src off) (hs0 : 1 ≤ s.size) (hs : s.size ≤ 2) :
    Calls Tryz.prog 28 #[.pointer (some ⟨b, 0, none⟩), .string s] w (EatPost B b g cap src off s.toList w) := by
  have c0 := h.cell0
  have c1 := h.cell1
  have f1 := h.free 1
  have hsm := h.small
  have hle := h.le
  have hcap := h.capL
  have hcapS := h.capS
  have hsl : s.toList.length = s.size := by rw [ByteArray.toList_eq]; exact Array.length_toList
  by_cases hlt : off + s.size ≤ src.length
  · have hcv := fun n c => part_c h off s.size c hlt n
    obtain ⟨r, hr⟩ : ∃ r : ByteArray, r = ⟨((src.drop off).take s.size).toArray⟩ := ⟨_, rfl⟩
    rw [← hr] at hcv
    have hat : (r.toList == s.toList) = atB src off s.toList := by
      apply bool_ext
      rw [hr, atB, hsl]
      simp [ByteArray.toList_eq]
    cases hm : atB src off s.toList with
    | true =>
      rw [hm] at hat
      have Hsk := Lib.hid (fun n => (skip_c (w := (w.drewN n).setCell ⟨b, 1, none⟩ (.int .i64 ((off : Int) + (s.size : Int)))) (by
        have h2 := (h.drewN n).set (off + s.size) hlt
        rw [Int.natCast_add] at h2
        exact h2)).mono fun e w' k => (k : _ ∧ ∃ n, w' = _))
      have Hfin := Lib.hid (fun n m => show EatPost B b g cap src off s.toList w (.returned (.bool true)) (((w.drewN n).setCell ⟨b, 1, none⟩ (.int .i64 ((off : Int) + (s.size : Int)))).drewN m) from by
        have h2 := ((h.drewN n).set (off + s.size) hlt).drewN m
        rw [Int.natCast_add] at h2
        unfold EatPost
        rw [if_pos hm, hsl]
        exact ⟨rfl, h2, (((Only.refl b w).drewN n).setCell 1 _).drewN m⟩)
      have hwr : IntKind.i64.wrap ((off : Int) + (s.size : Int)) = (off : Int) + (s.size : Int) := IntWalk.i64_in _ (by omega)
      have hg1 : (off : Int) + (s.size : Int) ≤ (src.length : Int) := by omega
      have hi0 : (0 : Int) ≤ (off : Int) := by omega
      have hi1 : (off : Int) ≤ (off : Int) + (s.size : Int) := by omega
      have hi2 : (off : Int) + (s.size : Int) ≤ (cap : Int) := by omega
      have hne : cap ≠ off := by omega
      clear h hr hm hsl
      go_enter Tryz.func28, Tryz.ntmps28
      go_wp2_with fail
      go_quiet (fail)
      go_wp2_with fail
      go_quiet (fail)
      go_wp2_with fail
      refine (Hsk.out _).mono ?_
      rintro e w' ⟨rfl, n, rfl⟩
      go_wp2_with fail
      go_ret
      exact Hfin.out _ _
    | false =>
      rw [hm] at hat
      have Hfin := Lib.hid (fun n => show EatPost B b g cap src off s.toList w (.returned (.bool false)) (w.drewN n) from by
        unfold EatPost
        rw [if_neg (by rw [hm]; simp)]
        exact ⟨rfl, h.drewN n, (Only.refl b w).drewN n⟩)
      have hwr : IntKind.i64.wrap ((off : Int) + (s.size : Int)) = (off : Int) + (s.size : Int) := IntWalk.i64_in _ (by omega)
      have hg1 : (off : Int) + (s.size : Int) ≤ (src.length : Int) := by omega
      have hi0 : (0 : Int) ≤ (off : Int) := by omega
      have hi1 : (off : Int) ≤ (off : Int) + (s.size : Int) := by omega
      have hi2 : (off : Int) + (s.size : Int) ≤ (cap : Int) := by omega
      have hne : cap ≠ off := by omega
      clear h hr hm hsl
      go_enter Tryz.func28, Tryz.ntmps28
      go_wp2_with fail
      go_quiet (fail)
      go_wp2_with fail
      go_quiet (fail)
      go_wp2_with fail
      go_ret
      exact Hfin.out _
  · have Hfin := Lib.hid (fun n => show EatPost B b g cap src off s.toList w (.returned (.bool false)) (w.drewN n) from by
      unfold EatPost
      rw [if_neg (by
        simp only [atB, decide_eq_true_eq]
        intro e
        have := congrArg List.length e
        rw [List.length_take, List.length_drop, hsl] at this
        omega)]
      exact ⟨rfl, h.drewN n, (Only.refl b w).drewN n⟩)
    have hwr : IntKind.i64.wrap ((off : Int) + (s.size : Int)) = (off : Int) + (s.size : Int) := IntWalk.i64_in _ (by omega)
    have hg1 : (src.length : Int) < (off : Int) + (s.size : Int) := by omega
    clear h hsl
    go_enter Tryz.func28, Tryz.ntmps28
    go_wp2_with fail
    go_quiet (fail)
    go_wp2_with fail
    go_ret
    exact Hfin.out _
theorem eat_yes {B b g cap off : Nat} {src l r : Bs} {w w' : World} {e : Ending} (h : EatPost B b g cap src off l w e w') (hd : src.drop off = l ++ r) : e = .returned (.bool true) ∧ PsAt w' B b g cap src (off + l.length) ∧ Only b w w' := by
  unfold EatPost at h
  rw [if_pos (by simp [atB, hd])] at h
  exact h
theorem eat_no {B b g cap off : Nat} {src l : Bs} {w w' : World} {e : Ending} (h : EatPost B b g cap src off l w e w') (hd : atB src off l = false) : e = .returned (.bool false) ∧ PsAt w' B b g cap src off ∧ Only b w w' := by
  unfold EatPost at h
  rw [if_neg (by rw [hd]; simp)] at h
  exact h
set_option maxHeartbeats 1000000 in
theorem expect_c {w : World} {B b g cap off : Nat} {src r : Bs} (s : ByteArray) (h : PsAt w B b g cap src off) (hs0 : 1 ≤ s.size) (hs : s.size ≤ 2) (hd : src.drop off = s.toList ++ r) :
    Calls Tryz.prog 36 #[.pointer (some ⟨b, 0, none⟩), .string s] w fun e w' => e = .returned (.tuple #[]) ∧ PsAt w' B b g cap src (off + s.toList.length) ∧ Only b w w' := by
  have Hc := Lib.hid ((consume_c s h hs0 hs).mono fun e w' k => eat_yes k hd)
  clear h hd hs0 hs
  go_enter Tryz.func36, Tryz.ntmps36
  go_wp2_with fail
  refine Hc.out.mono ?_
  rintro e w' ⟨rfl, hp, ho⟩
  have H := Lib.hid (And.intro hp ho)
  clear hp ho
  go_wp2_with fail
  refine bodyPost_ret (results_none rfl _ _ _) rfl ?_
  exact ⟨rfl, H.out⟩
end Go.Proofs.YthpianlilipggaaGreatDoor
