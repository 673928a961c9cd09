/- The methods of variables and numerals, and which function each method is. Condition: texts are at most 2^24 letters long; the table of powers holds what it was laid with. -/
import Derived.Test.YthpianlilipggaaGreatDoorVp
namespace Go.Proofs.YthpianlilipggaaGreatDoor
open Go.RowKit Go.PlainAid

section
variable {w : World} {k : Nat} {v : Bs}
theorem varUnp_c (h : VarAt w k v) : Calls Tryz.prog 84 #[ptr k] w (Ret (fun s => s = ⟨v.toArray⟩) w) := by
  have c0 : w.cell? ⟨k, 0, none⟩ = some (.string ⟨v.toArray⟩) := AtB.cell h 0
  clear h
  unfold ptr
  go_enter Tryz.func84, Tryz.ntmps84
  go_wp2_with fail
  go_ret
  exact ⟨_, rfl, rfl, Below.refl _ _⟩
theorem varPosGo_c (x : ByteArray) (hx : x.size ≤ 1024) (hv : v.length ≤ 16777216) (h : VarAt w k v) : Calls Tryz.prog 83 #[ptr k, .string x] w (Ret (fun s => s = x ++ ⟨#[46]⟩ ++ ⟨v.toArray⟩) w) := by
  have c0 : w.cell? ⟨k, 0, none⟩ = some (.string ⟨v.toArray⟩) := AtB.cell h 0
  clear h
  unfold ptr
  go_enter Tryz.func83, Tryz.ntmps83
  go_wp2_with fail
  go_ret
  exact ⟨_, rfl, rfl, Below.refl _ _⟩
theorem varBoolGo_c (x : ByteArray) (hx : x.size ≤ 1024) (hv : v.length ≤ 16777216) (h : VarAt w k v) : Calls Tryz.prog 118 #[ptr k, .string x] w (Ret (fun s => s = x ++ ⟨#[46]⟩ ++ ⟨v.toArray⟩) w) := by
  have c0 : w.cell? ⟨k, 0, none⟩ = some (.string ⟨v.toArray⟩) := AtB.cell h 0
  clear h
  unfold ptr
  go_enter Tryz.func118, Tryz.ntmps118
  go_wp2_with fail
  go_ret
  exact ⟨_, rfl, rfl, Below.refl _ _⟩
theorem varSliceGo_c (x : ByteArray) (hx : x.size ≤ 1024) (hv : v.length ≤ 16777216) (h : VarAt w k v) : Calls Tryz.prog 120 #[ptr k, .string x] w (Ret (fun s => s = x ++ ⟨#[46]⟩ ++ ⟨v.toArray⟩) w) := by
  have c0 : w.cell? ⟨k, 0, none⟩ = some (.string ⟨v.toArray⟩) := AtB.cell h 0
  clear h
  unfold ptr
  go_enter Tryz.func120, Tryz.ntmps120
  go_wp2_with fail
  go_ret
  exact ⟨_, rfl, rfl, Below.refl _ _⟩
theorem varStrGo_c (x : ByteArray) (hx : x.size ≤ 1024) (hv : v.length ≤ 16777216) (h : VarAt w k v) : Calls Tryz.prog 121 #[ptr k, .string x] w (Ret (fun s => s = x ++ ⟨#[46]⟩ ++ ⟨v.toArray⟩) w) := by
  have c0 : w.cell? ⟨k, 0, none⟩ = some (.string ⟨v.toArray⟩) := AtB.cell h 0
  clear h
  unfold ptr
  go_enter Tryz.func121, Tryz.ntmps121
  go_wp2_with fail
  go_ret
  exact ⟨_, rfl, rfl, Below.refl _ _⟩
theorem varNodeGo_c (x : ByteArray) (hx : x.size ≤ 1024) (hv : v.length ≤ 16777216) (h : VarAt w k v) : Calls Tryz.prog 119 #[ptr k, .string x] w (Ret (fun s => s = ⟨#[119, 114, 97, 112, 78, 111, 100, 101, 40]⟩ ++ x ++ ⟨#[46]⟩ ++ ⟨v.toArray⟩ ++ ⟨#[41]⟩) w) := by
  have c0 : w.cell? ⟨k, 0, none⟩ = some (.string ⟨v.toArray⟩) := AtB.cell h 0
  clear h
  unfold ptr
  go_enter Tryz.func119, Tryz.ntmps119
  go_wp2_with fail
  go_ret
  exact ⟨_, rfl, rfl, Below.refl _ _⟩
theorem itoa_nat (n : Nat) : Lib.itoa (n : Int) = Lib.decDigits n := by
  unfold Lib.itoa
  rw [if_neg (by omega)]
  rfl
theorem litUnp_c (n : Nat) (hn : n < 1099511627776) (ht : Lib.TabIs Tryz.prog w "internal/strconv.uint64pow10" .u64 Lib.pow10Tab) (h : AtB w k 96 #[.int .i64 (n : Int)]) : Calls Tryz.prog 110 #[ptr k] w (Ret (fun s => s = ⟨(Lib.decDigits n).toArray⟩) w) := by
  have c0 : w.cell? ⟨k, 0, none⟩ = some (.int .i64 (n : Int)) := h.cell 0
  have Hi := Lib.hid (Tryz.strconv_Itoa (n : Int) (by omega) (by omega) w ht)
  rw [itoa_nat] at Hi
  clear h ht
  unfold ptr
  go_enter Tryz.func110, Tryz.ntmps110
  go_wp2_with fail
  refine Hi.out.mono ?_
  rintro e w' ⟨rfl, q, os, rfl⟩
  have hb := Lib.below_grow w.heap.size w (Nat.le_refl _) q os
  go_wp2_with fail
  go_ret
  exact ⟨_, rfl, rfl, hb⟩
theorem litGo_c (x : ByteArray) (n : Nat) (hn : n < 1099511627776) (ht : Lib.TabIs Tryz.prog w "internal/strconv.uint64pow10" .u64 Lib.pow10Tab) (h : AtB w k 96 #[.int .i64 (n : Int)]) : Calls Tryz.prog 109 #[ptr k, .string x] w (Ret (fun s => s = ⟨(Lib.decDigits n).toArray⟩) w) := by
  have c0 : w.cell? ⟨k, 0, none⟩ = some (.int .i64 (n : Int)) := h.cell 0
  have Hi := Lib.hid (Tryz.strconv_Itoa (n : Int) (by omega) (by omega) w ht)
  rw [itoa_nat] at Hi
  clear h ht
  unfold ptr
  go_enter Tryz.func109, Tryz.ntmps109
  go_wp2_with fail
  refine Hi.out.mono ?_
  rintro e w' ⟨rfl, q, os, rfl⟩
  have hb := Lib.below_grow w.heap.size w (Nat.le_refl _) q os
  go_wp2_with fail
  go_ret
  exact ⟨_, rfl, rfl, hb⟩
end
end Go.Proofs.YthpianlilipggaaGreatDoor
