/- The reference's capitals of a text are the plain ones. Condition: the text is shorter than 2^61 bytes. -/
import Derived.Test.YtkhjenlclpcehaaDoorBa
import Derived.Test.YtkhjenlclpcehaaDoorPc
namespace Go.Proofs.YtkhjenlclpcehaaDoor
open Go.RowKit Go.PlainAid

set_option maxHeartbeats 800000 in
set_option maxRecDepth 20000 in
theorem Upper_c (s : ByteArray) (w : World) (hs : s.size ≤ 2305843009213693952) :
    Calls Tryd.prog 17 #[.string s] w fun e w' => e = .returned (.string ⟨(upperL s.data.toList).toArray⟩) ∧ Below w.heap.size w w' := by
  have hcv := run_bytes_of w s
  have hbl0 := below_bytesWorld w s
  have hBA0 := bytesAt_new w s
  obtain ⟨cap, hcap⟩ : ∃ cap, grownCap w s.size 0 5 = cap := ⟨_, rfl⟩
  rw [hcap] at hcv
  clear hcap
  obtain ⟨W0, hW0⟩ : ∃ W0, Lib.bytesWorld w 5 s = W0 := ⟨_, rfl⟩
  rw [hW0] at hcv hbl0 hBA0
  clear hW0
  obtain ⟨g, hg⟩ : ∃ g, w.heap.size = g := ⟨_, rfl⟩
  rw [hg] at hcv hBA0
  have hsz : s.data.toList.length = s.size := by simp
  obtain ⟨l, hl⟩ : ∃ l, s.data.toList = l := ⟨_, rfl⟩
  rw [hl] at hBA0 hsz
  rw [hl]
  have Hl := Lib.hid hsz
  have hsz1 : l.length ≤ s.size := by omega
  have hsz2 : s.size ≤ l.length := by omega
  have Hg := Lib.hid hg
  clear hl hsz hg
  go_enter Tryd.func17, Tryd.ntmps17
  go_wp2
  go_loopw [4] (fun v wr => ∃ k : Nat, k ≤ s.size ∧ v = .int .i64 k ∧ BytesAt wr g (upTo l k) ∧ Below g W0 wr) (fun v _ => s.size - (intOf v).toNat)
  case atStart => exact ⟨0, by omega, rfl, by rw [upTo_zero]; exact hBA0, Below.refl _ _⟩
  case round =>
    obtain ⟨k, hk, rfl, hBA, hbw⟩ := hrel
    by_cases hlt : k < s.size
    · have hkl : k < l.length := by omega
      have hcell := hBA.cell k (by rw [upTo_length]; exact hkl)
      rw [upTo_get l k hkl] at hcell
      have hfz := hBA.notFrozen k (by rw [upTo_length]; exact hkl)
      have hx1 : ((l[k].toNat : Nat) : Int) ≤ 255 := by have := l[k].toNat_lt; omega
      have hx0 : 0 ≤ ((l[k].toNat : Nat) : Int) := by omega
      by_cases hup : 97 ≤ ((l[k].toNat : Nat) : Int) ∧ ((l[k].toNat : Nat) : Int) ≤ 122
      · obtain ⟨hu1, hu2⟩ := hup
        have hset := hBA.set k (upB l[k])
        rw [upB_yes hu1 hu2, ← upTo_succ l k hkl] at hset
        obtain ⟨x, hx⟩ : ∃ x : Int, ((l[k].toNat : Nat) : Int) = x := ⟨_, rfl⟩
        rw [hx] at hcell hx1 hx0 hu1 hu2 hset
        clear hx
        go_wp2
        go_roundw
        case rel => exact ⟨k + 1, by omega, by go_num, hset, hbw.setCell (Nat.le_refl _) _⟩
        case measure => simp [intOf]; omega
      · have hset : upTo l (k + 1) = upTo l k := by rw [upTo_succ l k hkl, upB_no hup]; exact (List.ext_getElem (by simp) (fun i h1 h2 => by by_cases e : k = i <;> simp [e]; subst e; exact (upTo_get l k hkl).symm))
        rw [← hset] at hBA
        clear hset
        obtain ⟨x, hx⟩ : ∃ x : Int, ((l[k].toNat : Nat) : Int) = x := ⟨_, rfl⟩
        rw [hx] at hcell hx1 hx0 hup
        clear hx
        by_cases hu1 : 97 ≤ x
        all_goals
          go_wp2
          go_roundw
          case rel => exact ⟨k + 1, by omega, by go_num, hBA, hbw⟩
          case measure => simp [intOf]; omega
    · have hBA2 := hBA
      rw [upTo_all l k (by omega)] at hBA2
      have hcv2 := fun c => run_bytes_back hBA2 c
      have hll : (upperL l).length = s.size := by simp [upperL]; exact Hl.out
      rw [hll] at hcv2
      clear hll
      go_wp2
      go_ret
      exact ⟨rfl, hbl0.trans (by rw [Hg.out]; exact hbw)⟩
end Go.Proofs.YtkhjenlclpcehaaDoor
