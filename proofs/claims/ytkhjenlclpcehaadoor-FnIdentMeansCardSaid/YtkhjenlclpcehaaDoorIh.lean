/- strconv.FormatUint in base 16 below 128: two digits at most. Condition: the table of math/bits holds what it was laid with. -/
import Derived.Test.YtkhjenlclpcehaaDoorPo
import Derived.Lib.Hide
import Derived.Laws.IdiomStrings
import Derived.Lib.SmallJoins
import Derived.Lib.LaidTab
namespace Go.Proofs.YtkhjenlclpcehaaDoor
open Go.RowKit Go.PlainAid Go.Joins

def tab64 : List Int := [0, 1, 56, 2, 57, 49, 28, 3, 61, 58, 42, 50, 38, 29, 17, 4, 62, 47, 59, 36, 45, 43, 51, 22, 53, 39, 33, 30, 24, 18, 12, 5, 63, 55, 48, 27, 60, 41, 37, 16, 46, 35, 44, 21, 52, 32, 23, 11, 54, 26, 40, 15, 34, 20, 31, 10, 25, 14, 19, 9, 13, 8, 7, 6]

set_option maxHeartbeats 1000000 in
theorem isPow_c (w : World) : Calls Tryd.prog 64 #[.int .i64 16] w fun e w' => e = .returned (.bool true) ∧ w' = w := by
  have hand : bits .and .i64 16 15 = 0 := by decide +kernel
  go_enter Tryd.func64, Tryd.ntmps64
  go_wp2
  go_ret
  exact ⟨rfl, rfl⟩

set_option maxHeartbeats 1000000 in
set_option maxRecDepth 100000 in
theorem tz64_c (w : World) (htab : Lib.TabIs Tryd.prog w "math/bits.deBruijn64tab" .u8 tab64) : Calls Tryd.prog 67 #[.int .u64 16] w fun e w' => e = .returned (.int .i64 4) ∧ w' = w := by
  have hX : IntKind.u64.wrap (bits .and .u64 16 (IntKind.u64.wrap (-16)) * 285870213051353865) / 288230376151711744 = 15 := by decide +kernel
  have hcell : w.cell? ⟨5, 15, none⟩ = some (.int .u8 (tab64.getD 15 0)) := htab.cell (by kernel_rfl) 15 (by decide)
  have e15 : tab64.getD 15 0 = 4 := by decide +kernel
  rw [e15] at hcell
  clear e15 htab
  go_enter Tryd.func67, Tryd.ntmps67
  go_wp2
  go_ret
  exact ⟨rfl, rfl⟩

set_option maxHeartbeats 1000000 in
set_option maxRecDepth 100000 in
theorem tz_c (w : World) (htab : Lib.TabIs Tryd.prog w "math/bits.deBruijn64tab" .u8 tab64) : Calls Tryd.prog 65 #[.int .u64 16] w fun e w' => e = .returned (.int .i64 4) ∧ w' = w := by
  have h1 := Lib.hid (tz64_c w htab)
  clear htab
  go_enter Tryd.func65, Tryd.ntmps65
  go_wp2_with fail
  refine h1.out.mono ?_
  rintro e w' ⟨rfl, rfl⟩
  go_wp2
  go_ret
  exact ⟨rfl, rfl⟩

/-- The digits of a number below 128 in base 16. -/
def hexS (c : Nat) : List UInt8 := if c < 16 then [hexD c] else [hexD (c / 16), hexD (c % 16)]
theorem dig_hex : ∀ k (h : k < 16), (⟨#[48, 49, 50, 51, 52, 53, 54, 55, 56, 57, 97, 98, 99, 100, 101, 102, 103, 104, 105, 106, 107, 108, 109, 110, 111, 112, 113, 114, 115, 116, 117, 118, 119, 120, 121, 122]⟩ : ByteArray)[k]'(Nat.lt_trans h (by decide)) = hexD k := by decide +kernel
theorem back_one (w : World) (C : Array Value) (x : UInt8) (h : C[64]? = some (.int .u8 (x.toNat : Int))) :
    (convert 38 9 (.slice (some ⟨w.heap.size, 64, none⟩) 1 1)).run Tryd.prog (w.alloc (.cells C 100)) = .ok (.string ⟨#[x]⟩) (w.alloc (.cells C 100)) :=
  run_convert_bytes_back (w.alloc (.cells C 100)) 38 9 5 ⟨w.heap.size, 64, none⟩ 1 [x] Tryd.underlying38 Tryd.underlying5 Tryd.underlying9 (fun j hj => by
    obtain rfl : j = 0 := by simp at hj; omega
    show (w.alloc (.cells C 100)).cell? ⟨w.heap.size, 64, none⟩ = _
    rw [World.cell?_alloc_mark]; exact h)
theorem back_two (w : World) (C : Array Value) (x y : UInt8) (h : C[63]? = some (.int .u8 (x.toNat : Int))) (h2 : C[64]? = some (.int .u8 (y.toNat : Int))) :
    (convert 38 9 (.slice (some ⟨w.heap.size, 63, none⟩) 2 2)).run Tryd.prog (w.alloc (.cells C 100)) = .ok (.string ⟨#[x, y]⟩) (w.alloc (.cells C 100)) :=
  run_convert_bytes_back (w.alloc (.cells C 100)) 38 9 5 ⟨w.heap.size, 63, none⟩ 2 [x, y] Tryd.underlying38 Tryd.underlying5 Tryd.underlying9 (fun j hj => by
    have hj2 : j = 0 ∨ j = 1 := by simp at hj; omega
    rcases hj2 with rfl | rfl
    · show (w.alloc (.cells C 100)).cell? ⟨w.heap.size, 63, none⟩ = _
      rw [World.cell?_alloc_mark]; exact h
    · show (w.alloc (.cells C 100)).cell? ⟨w.heap.size, 64, none⟩ = _
      rw [World.cell?_alloc_mark]; exact h2)
theorem zc_size : Tryd.zeroCells100.size = 65 := rfl

set_option maxHeartbeats 4000000 in
set_option maxRecDepth 100000 in
theorem formatBits_c (c : Nat) (w : World) (hc : c < 128) (htab : Lib.TabIs Tryd.prog w "math/bits.deBruijn64tab" .u8 tab64) :
    Calls Tryd.prog 60 #[.slice none 0 0, .int .u64 c, .int .i64 16, .bool false, .bool false] w fun e w' => e = .returned (.tuple #[.slice none 0 0, .string ⟨(hexS c).toArray⟩]) ∧ Below w.heap.size w w' := by
  have hp := fun W => isPow_c W
  go_enter Tryd.func60, Tryd.ntmps60
  have ht := Lib.hid (fun W (hb : Below w.heap.size w W) => tz_c W (tab_stays (g := 5) (by kernel_rfl) htab hb (Nat.le_refl _)))
  clear htab
  go_wp2_with fail
  refine (hp _).mono ?_
  rintro e w' ⟨rfl, rfl⟩
  go_wp2_with fail
  refine (ht.out _ ((Below.refl _ w).alloc (Nat.le_refl _) _)).mono ?_
  clear ht hp
  rintro e w' ⟨rfl, rfl⟩
  obtain ⟨q, hq⟩ : ∃ q, c / 16 = q := ⟨_, rfl⟩
  obtain ⟨m, hm⟩ : ∃ m, c % 16 = m := ⟨_, rfl⟩
  have hand : bits .and .u64 c 15 = (m : Int) := by
    rw [u64_and c 15 (by omega) (by omega) (by decide) (by decide), ← hm]
    show ((c &&& 15 : Nat) : Int) = _
    rw [nat_mask4]
  go_wp2_with fail
  go_loopw [1, 13] (fun v1 v13 wr => (v1 = .int .u64 c ∧ v13 = .int .i64 65 ∧ wr = w.alloc (.cells Tryd.zeroCells100 100)) ∨ (16 ≤ c ∧ v1 = .int .u64 (q : Int) ∧ v13 = .int .i64 64 ∧ wr = w.alloc (.cells (Tryd.zeroCells100.setIfInBounds 64 (.int .u8 ((hexD m).toNat : Int))) 100))) (fun _ v13 _ => (intOf v13).toNat)
  case atStart => exact Or.inl ⟨rfl, rfl, rfl⟩
  case round =>
    rcases hrel with ⟨rfl, rfl, rfl⟩ | ⟨h16, rfl, rfl, rfl⟩
    · by_cases hlt : c < 16
      · have hd := dig_hex c hlt
        have hcv := back_one w (Tryd.zeroCells100.setIfInBounds 64 (.int .u8 ((hexD c).toNat : Int))) (hexD c) (by rw [Array.getElem?_setIfInBounds_self_of_lt (by rw [zc_size]; decide)])
        go_wp2
        go_ret2
        refine ⟨?_, (Below.refl _ w).alloc (Nat.le_refl _) _⟩
        unfold hexS
        rw [if_pos hlt]
        rfl
      · have hd := dig_hex m (by omega)
        go_wp2
        refine ⟨Or.inr ⟨by omega, ?_, rfl, trivial⟩, by simp [intOf]⟩
        have e : (c : Int) / 16 = (q : Int) := by omega
        rw [e]
    · have hd := dig_hex q (by omega)
      have hcv := back_two w ((Tryd.zeroCells100.setIfInBounds 64 (.int .u8 ((hexD m).toNat : Int))).setIfInBounds 63 (.int .u8 ((hexD q).toNat : Int))) (hexD q) (hexD m) (by rw [Array.getElem?_setIfInBounds_self_of_lt (by rw [Array.size_setIfInBounds, zc_size]; decide)]) (by rw [Array.getElem?_setIfInBounds_ne (by decide), Array.getElem?_setIfInBounds_self_of_lt (by rw [zc_size]; decide)])
      have hq2 : q < 16 := by omega
      go_wp2
      go_ret2
      refine ⟨?_, (Below.refl _ w).alloc (Nat.le_refl _) _⟩
      unfold hexS
      rw [if_neg (by omega), hq, hm]
      rfl
end Go.Proofs.YtkhjenlclpcehaaDoor
