/- The reference's token at a place is the plain one: the parts. Condition: the text is at most 2^45 bytes long. -/
import Derived.Test.YtkhjenlclpcehaaDoorWb
import Derived.Test.YtkhjenlclpcehaaDoorWc
import Derived.Test.YtkhjenlclpcehaaDoorWd
import Derived.Test.YtkhjenlclpcehaaDoorWf
import Derived.Test.YtkhjenlclpcehaaDoorWh
import Derived.Test.YtkhjenlclpcehaaDoorWi
import Derived.Test.YtkhjenlclpcehaaDoorPi
import Derived.RegionTactic
namespace Go.Proofs.YtkhjenlclpcehaaDoor
open Go.RowKit Go.PlainAid

theorem lDotted_c (k : ByteArray) (w : World) :
    Calls Tryd.prog 12 #[.string k] w fun e w' => e = .returned (.bool (dottedB k)) ∧ w = w' := by
  go_enter Tryd.func12, Tryd.ntmps12
  go_wp2
  all_goals (go_ret; refine ⟨ret_bool ?_, rfl⟩; simp [dottedB, *])

/-- What a token leaves in memory. -/
def tokSet (x : TokS) (r : TokR) : TokS := { x with kind := r.kind, text := r.text.getD x.text, base := r.base.getD x.base }
def TokPost (b : Nat) (x : TokS) (o : Option TokR) (w : World) (e : Ending) (w' : World) : Prop :=
  match o with
  | none => (∃ n : Int, e = .returned (.tuple #[.int .i64 n, .bool false])) ∧ Only b w w'
  | some r => e = .returned (.tuple #[.int .i64 r.stop, .bool true]) ∧ TokAt w' b (tokSet x r) ∧ Only b w w'
theorem tokPost_none {b : Nat} {x : TokS} {o : Option TokR} {w w' : World} {n : Int} (ho : o = none) (hw : Only b w w') : TokPost b x o w (.returned (.tuple #[.int .i64 n, .bool false])) w' := by subst ho; exact ⟨⟨n, rfl⟩, hw⟩
theorem tokPost_some {b : Nat} {x : TokS} {o : Option TokR} {r : TokR} {w w' : World} (ho : o = some r) (ht : TokAt w' b (tokSet x r)) (hw : Only b w w') : TokPost b x o w (.returned (.tuple #[.int .i64 r.stop, .bool true])) w' := by subst ho; exact ⟨rfl, ht, hw⟩

set_option maxHeartbeats 800000 in
set_option maxRecDepth 100000 in
theorem lTok_eof (s : ByteArray) (i b : Nat) (x : TokS) (path : Bool) (after : Bool) (w : World) (ht : TokAt w b x) (hi : i = s.size) :
    Calls Tryd.prog 13 #[.string s, .int .i64 i, .bool path, .bool after, .pointer (some ⟨b, 0, none⟩)] w (TokPost b x (tokOf s i path after) w) := by
  have ho : Hid (tokOf s i path after = some ⟨kEof, none, none, i⟩) := by show _ = _; rw [tokOf, if_pos hi]
  have hf0 := ht.free 0
  have hc0 := ht.cell0
  have hib : ((i : Int) == (s.size : Int)) = true := by simp; omega
  clear hi
  go_enter Tryd.func13, Tryd.ntmps13
  go_wp2
  go_ret2
  exact tokPost_some ho.out (ht.setKind _) ((Only.refl b w).setCell 0 _)

set_option maxHeartbeats 800000 in
set_option maxRecDepth 100000 in
theorem lTok_path (s : ByteArray) (i b : Nat) (x : TokS) (after : Bool) (w : World) (hs : s.size ≤ 35184372088832) (ht : TokAt w b x) (hi : i < s.size) (hp : partB (bt s i) = true) :
    Calls Tryd.prog 13 #[.string s, .int .i64 i, .bool true, .bool after, .pointer (some ⟨b, 0, none⟩)] w (TokPost b x (tokOf s i true after) w) := by
  have ho : Hid (tokOf s i true after = some ⟨kIdent, some (s.extract i (partsEnd s i)), none, partsEnd s i⟩) := by show _ = _; rw [tokOf, if_neg (by omega), if_pos ⟨rfl, hp⟩]
  have hf0 := ht.free 0
  have hc0 := ht.cell0
  have hf3 := ht.free 3
  have hc3 := ht.cell3
  have hib : ((i : Int) == (s.size : Int)) = false := by simp; omega
  have hb := get_bt s
  have hp1 := partsEnd_ge s i
  have hp2 := partsEnd_le s i (by omega)
  have hpe := lParts_c s i w (by omega) (by omega)
  obtain ⟨e0, he0⟩ : ∃ e0, partsEnd s i = e0 := ⟨_, rfl⟩
  rw [he0] at hp1 hp2 ho hpe
  clear he0
  have Hpe := Lib.hid hpe
  clear hpe
  go_enter Tryd.func13, Tryd.ntmps13
  go_wp2_with (first
    | (go_at_call 24; refine (IdentPart_c _ _).mono ?_; rintro e w' ⟨rfl, rfl⟩)
    | (go_at_call 15; refine Hpe.out.mono ?_; rintro e w' ⟨rfl, rfl⟩))
  go_region
  go_wp2_with fail
  go_ret2
  exact tokPost_some ho.out ((ht.setKind _).setText _) (((Only.refl b w).setCell 0 _).setCell 3 _).drew

set_option maxHeartbeats 800000 in
set_option maxRecDepth 100000 in
theorem lTok_back (s : ByteArray) (i b : Nat) (x : TokS) (path : Bool) (after : Bool) (w : World) (hs : s.size ≤ 35184372088832) (ht : TokAt w b x) (hi : i < s.size) (hp : (path && partB (bt s i)) = false) (h96 : bt s i = 96) :
    Calls Tryd.prog 13 #[.string s, .int .i64 i, .bool path, .bool after, .pointer (some ⟨b, 0, none⟩)] w (TokPost b x (tokOf s i path after) w) := by
  have ho : Hid (tokOf s i path after = backTok s i) := by show _ = _; rw [tokOf, if_neg (by omega), if_neg (fun h => by simp [h.1, h.2] at hp), if_pos h96]
  obtain ⟨O, hO⟩ : ∃ O, tokOf s i path after = O := ⟨_, rfl⟩
  rw [hO] at ho
  rw [hO]
  clear hO
  have hf0 := ht.free 0
  have hc0 := ht.cell0
  have hf3 := ht.free 3
  have hc3 := ht.cell3
  have hib : ((i : Int) == (s.size : Int)) = false := by simp; omega
  have hb := get_bt s
  obtain ⟨c, hc⟩ : ∃ c, bt s i = c := ⟨_, rfl⟩
  have hb0 : ((s[i]'hi).toNat : Int) = c := by rw [hb i hi]; exact hc
  have hc0' : 0 ≤ c := by rw [← hc]; exact bt_nonneg s i
  have hc1' : c ≤ 255 := by rw [← hc]; exact bt_le s i
  rw [hc] at h96
  subst h96
  rw [hc] at hp
  clear hb hc
  cases path
  all_goals
    simp only [Bool.true_and, Bool.false_and] at hp
    go_enter Tryd.func13, Tryd.ntmps13
    go_wp2_with (go_at_call 24; refine (IdentPart_c _ _).mono ?_; rintro e w' ⟨rfl, rfl⟩)
    refine (Quoted_c s i false false w hs hi).mono ?_
    intro e w' hq
    unfold backTok at ho
    obtain ⟨r, hr⟩ : ∃ r, quotOf s i false false = r := ⟨_, rfl⟩
    rw [hr] at ho hq
    clear hr
    cases r with
    | good v n =>
      obtain ⟨rfl, hb1⟩ := hq
      have ht1 := ht.below hb1
      have hf01 := ht1.free 0
      have hc01 := ht1.cell0
      have hf31 := ht1.free 3
      have hc31 := ht1.cell3
      by_cases hv : v = []
      · have ho2 : Hid (O = none) := by show _ = _; rw [ho.out]; simp [hv]
        subst hv
        go_wp2_with fail
        go_ret2
        exact tokPost_none ho2.out (((Only.of_below hb1).setCell 0 _).setCell 3 _)
      · have ho2 : Hid (O = some ⟨kIdent, some ⟨v.toArray⟩, none, n⟩) := by show _ = _; rw [ho.out]; simp [hv]
        have hvb : v.isEmpty = false := by cases v with | nil => exact absurd rfl hv | cons a l => rfl
        go_wp2_with fail
        go_ret2
        exact tokPost_some ho2.out ((ht1.setKind _).setText _) (((Only.of_below hb1).setCell 0 _).setCell 3 _)
    | bad n =>
      obtain ⟨rfl, hb1⟩ := hq
      have ht1 := ht.below hb1
      have hf01 := ht1.free 0
      have hc01 := ht1.cell0
      have hf31 := ht1.free 3
      have hc31 := ht1.cell3
      have ho2 : Hid (O = none) := by show _ = _; rw [ho.out]
      go_wp2_with fail
      go_ret2
      exact tokPost_none ho2.out (((Only.of_below hb1).setCell 0 _).setCell 3 _)


end Go.Proofs.YtkhjenlclpcehaaDoor
