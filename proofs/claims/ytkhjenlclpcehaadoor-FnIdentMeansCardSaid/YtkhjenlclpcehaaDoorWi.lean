/- The reference's signs are the plain ones. Condition: the text is shorter than 2^61 bytes. -/
import Derived.Test.YtkhjenlclpcehaaDoorBb
import Derived.Test.YtkhjenlclpcehaaDoorPh
import Derived.Deep.DeepCutAuto
import Derived.Deep.CutBlock
import Derived.Deep.LoopGhost
import Derived.Deep.QuietTactic
import Derived.BigQuiet
namespace Go.Proofs.YtkhjenlclpcehaaDoor
open Go.RowKit Go.PlainAid

theorem symK : ({ data := #[60, 60, 62, 62, 60, 61, 62, 61, 60, 62, 33, 61, 124, 124, 61, 62, 45, 62, 124, 62, 64, 64] } : ByteArray) = symText := rfl
theorem sigK : ({ data := #[40, 41, 91, 93, 123, 125, 44, 59, 58, 46, 64, 61, 60, 62, 43, 45, 42, 47, 38, 94, 37, 124, 126, 36, 63, 92] } : ByteArray) = sigText := rfl
theorem Only.drewN {b : Nat} {u w : World} (h : Only b u w) (n : Nat) : Only b u (w.drewN n) := ⟨h.os, h.tape, h.output, h.size, h.block⟩
theorem TokAt.drewN {w : World} {b : Nat} {x : TokS} (h : TokAt w b x) (n : Nat) : TokAt (w.drewN n) b x := h

def SignPost (i b : Nat) (x : TokS) (o : Option (ByteArray × Nat)) (w : World) (e : Ending) (w' : World) : Prop :=
  match o with
  | none => e = .returned (.tuple #[.int .i64 i, .bool false]) ∧ TokAt w' b x ∧ Only b w w'
  | some p => e = .returned (.tuple #[.int .i64 p.2, .bool true]) ∧ TokAt w' b { x with kind := p.1 } ∧ Only b w w'
theorem signPost_none {i b : Nat} {x : TokS} {o : Option (ByteArray × Nat)} {w w' : World} (ho : o = none) (ht : TokAt w' b x) (hw : Only b w w') : SignPost i b x o w (.returned (.tuple #[.int .i64 i, .bool false])) w' := by subst ho; exact ⟨rfl, ht, hw⟩
theorem signPost_some {i b n : Nat} {x : TokS} {kd : ByteArray} {o : Option (ByteArray × Nat)} {w w' : World} (ho : o = some (kd, n)) (ht : TokAt w' b { x with kind := kd }) (hw : Only b w w') : SignPost i b x o w (.returned (.tuple #[.int .i64 n, .bool true])) w' := by subst ho; exact ⟨rfl, ht, hw⟩

set_option maxHeartbeats 3200000 in
set_option maxRecDepth 100000 in
theorem lSign_c (s : ByteArray) (i b : Nat) (x : TokS) (w : World) (hs : s.size ≤ 2305843009213693952) (hi : i < s.size) (ht : TokAt w b x) :
    Calls Tryd.prog 29 #[.string s, .int .i64 i, .pointer (some ⟨b, 0, none⟩)] w (SignPost i b x (signOf s i) w) := by
  go_enter Tryd.func29, Tryd.ntmps29
  rw [symK, sigK]
  obtain ⟨Y, hY⟩ : ∃ Y, Y = symText := ⟨_, rfl⟩
  obtain ⟨G, hG⟩ : ∃ G, G = sigText := ⟨_, rfl⟩
  rw [← hY, ← hG]
  have hY1 : Y.size ≤ 22 := by rw [hY]; decide
  have hY2 : 22 ≤ Y.size := by rw [hY]; decide
  have hG1 : G.size ≤ 26 := by rw [hG]; decide
  have hG2 : 26 ≤ G.size := by rw [hG]; decide
  have Hsym : Hid (∀ p, symFrom Y s i 0 = some p → signOf s i = some p) := fun p h => by rw [hY] at h; exact signOf_sym h
  have Hsig : Hid (symFrom Y s i 0 = none → signOf s i = sigFrom G s i 0) := fun h => by rw [hY] at h; rw [hG]; exact signOf_sig h
  clear hY hG
  have hf0 := ht.free 0
  have hc0 := ht.cell0
  go_upto_block 0 with fail
  go_cut [] (fun wc => w = wc ∧ Hid (symFrom Y s i 0 = none))
  case first => as_aux_lemma =>
    go_wp2_with fail
    go_loop [8] (fun v => ∃ k : Nat, k % 2 = 0 ∧ k ≤ 22 ∧ v = .int .i64 k ∧ Hid (symFrom Y s i k = symFrom Y s i 0)) (fun v => 22 - (intOf v).toNat)
    case atStart => exact ⟨0, rfl, by omega, rfl, rfl⟩
    case round =>
      obtain ⟨k, hev, hk, rfl, hr⟩ := hrel
      have Hev := Lib.hid hev
      clear hev
      by_cases hlt : k < 22
      · have hk2 : k + 2 ≤ 22 := by have := Hev.out; omega
        have hkw : Hid (k ≤ 20) := by show k ≤ 20; omega
        have hsz : (Y.extract k (k + 2)).size ≤ 22 := by rw [ByteArray.size_extract]; omega
        cases hst : startsB s i (Y.extract k (k + 2))
        · go_wp2_with (go_at_call 23; refine (lStarts_c _ _ _ _ (by omega) (by omega) (by omega)).mono ?_; rintro e w' ⟨rfl, rfl⟩)
          go_round
          case rel => exact ⟨k + 2, by have := Hev.out; omega, by omega, by go_num, by show symFrom Y s i (k + 2) = _; rw [← hr.out, symFrom_go hlt hst]⟩
          case measure => simp [intOf]; omega
        · have hgood : Hid (signOf s i = some (Y.extract k (k + 2), i + 2)) := Hsym.out _ (by rw [← hr.out, symFrom_hit hlt hst])
          go_wp2_with (go_at_call 23; refine (lStarts_c _ _ _ _ (by omega) (by omega) (by omega)).mono ?_; rintro e w' ⟨rfl, rfl⟩)
          go_ret2
          exact signPost_some hgood.out (ht.setKind _) ((Only.refl b w).setCell 0 _)
      · go_wp2
        go_meet
        case rel => exact ⟨rfl, by show _ = _; rw [← hr.out, symFrom_end hlt]⟩
  case rest =>
    obtain ⟨rfl, hno⟩ := hcut
    have hsg := Lib.hid (Hsig.out hno.out)
    clear Hsym Hsig hno hY1 hY2
    have hGb := get_bt G
    have hsb := get_bt s
    obtain ⟨c, hc⟩ : ∃ c, bt s i = c := ⟨_, rfl⟩
    have hb0 : ((s[i]'hi).toNat : Int) = c := by rw [hsb i hi]; exact hc
    have Hc := Lib.hid hc
    clear hsb hc
    go_wp2_with fail
    go_loopw [9] (fun v wr => ∃ (k n : Nat), k ≤ 26 ∧ v = .int .i64 k ∧ wr = w.drewN n ∧ Hid (sigFrom G s i k = sigFrom G s i 0)) (fun v _ => 26 - (intOf v).toNat)
    case atStart => exact ⟨0, 0, by omega, rfl, rfl, rfl⟩
    case round =>
      obtain ⟨k, n, hk, rfl, rfl, hr⟩ := hrel
      have ht2 := ht.drewN n
      by_cases hlt : k < 26
      · have hkG : k < G.size := by omega
        have hgi := hGb k hkG
        have hk0 : (0 : Int) ≤ k := by omega
        have hkI : (k : Int) < (G.size : Int) := by omega
        have hiI : (i : Int) < (s.size : Int) := by omega
        by_cases hh : bt G k = c
        · have hhb : (bt G k == c) = true := by simp [hh]
          have hgood : Hid (signOf s i = some (G.extract k (k + 1), i + 1)) := by show _ = _; rw [hsg.out, ← hr.out, sigFrom_hit hlt (by rw [Hc.out]; exact hh)]
          clear hh
          go_wp2_with fail
          go_quiet (fail)
          go_wp2_with fail
          go_ret2
          exact signPost_some hgood.out ((ht.drewN (n + nq)).setKind _) (((Only.refl b w).drewN (n + nq)).setCell 0 _)
        · have hhb : (bt G k == c) = false := by simp [hh]
          have hstep : Hid (sigFrom G s i (k + 1) = sigFrom G s i 0) := by show _ = _; rw [← hr.out, sigFrom_go hlt (by rw [Hc.out]; exact hh)]
          clear hh
          go_wp2_with fail
          go_quiet (fail)
          go_wp2_with fail
          go_roundw
          case rel => exact ⟨k + 1, n + nq, by omega, by go_num, by simp, hstep⟩
          case measure => simp [intOf]; omega
      · go_wp2
        go_ret2
        exact signPost_none (by rw [hsg.out, ← hr.out, sigFrom_end hlt]) ht2 ((Only.refl b w).drewN n)
end Go.Proofs.YtkhjenlclpcehaaDoor
