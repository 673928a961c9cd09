/- The law's test of sorts, kind by kind: sVar, sInt. Condition: at most 2^20 letters and parts. -/
import Derived.Test.YthpianlilipggaaGreatDoorVz
namespace Go.Proofs.YthpianlilipggaaGreatDoor
open Go.RowKit Go.PlainAid

set_option maxHeartbeats 2000000 in
set_option maxRecDepth 100000 in
theorem sVar_z (w : World) (cap : Nat) (a : Option Addr) (s : ByteArray) (_hs : s.size ≤ 1048576) (z : Int) (c : UInt8) (h3 : (z == 0) = false) (n : Nat) (_hn : n ≤ 1048576) :
    Calls Tryz.prog 6 #[.agg #[.string ⟨#[118, 97, 114]⟩, .string s, .int .i64 z, .slice a n cap], .string ⟨#[c]⟩] w (Tru false w) := by
  go_enter Tryz.func6, Tryz.ntmps6
  go_wp2_with fail
  all_goals (go_ret; exact ⟨rfl, (Below.refl _ _).alloc (Nat.le_refl _) _⟩)

set_option maxHeartbeats 2000000 in
set_option maxRecDepth 100000 in
theorem sVar_l (w : World) (cap : Nat) (a : Option Addr) (s : ByteArray) (_hs : s.size ≤ 1048576) (c : UInt8) (n : Nat) (_hn : n ≤ 1048576) (h5 : ((n : Int) == 0) = false) (_h6 : (n == 0) = false) :
    Calls Tryz.prog 6 #[.agg #[.string ⟨#[118, 97, 114]⟩, .string s, .int .i64 0, .slice a n cap], .string ⟨#[c]⟩] w (Tru false w) := by
  go_enter Tryz.func6, Tryz.ntmps6
  go_wp2_with fail
  all_goals (go_ret; exact ⟨rfl, (Below.refl _ _).alloc (Nat.le_refl _) _⟩)

set_option maxHeartbeats 2000000 in
set_option maxRecDepth 100000 in
theorem sVar_w (w : World) (cap : Nat) (a : Option Addr) (s : ByteArray) (_hs : s.size ≤ 1048576) (c : UInt8) (hw : ∀ W : World, Calls Tryz.prog 11 #[.string s] W fun e w' => e = .returned (.bool false) ∧ W = w') :
    Calls Tryz.prog 6 #[.agg #[.string ⟨#[118, 97, 114]⟩, .string s, .int .i64 0, .slice a 0 cap], .string ⟨#[c]⟩] w (Tru false w) := by
  have Hw := Lib.hid hw
  clear hw
  go_enter Tryz.func6, Tryz.ntmps6
  go_wp2_with (go_at_call 11; refine (Hw.out _).mono ?_; rintro e w' ⟨rfl, rfl⟩)
  all_goals (go_ret; exact ⟨rfl, (Below.refl _ _).alloc (Nat.le_refl _) _⟩)

set_option maxHeartbeats 2000000 in
set_option maxRecDepth 100000 in
theorem sVar_u (w : World) (cap : Nat) (a : Option Addr) (s : ByteArray) (_hs : s.size ≤ 1048576) (h1 : s.toList.isEmpty = false) (_h2 : (!s.toList.isEmpty) = true) (c : UInt8) (hw : ∀ W : World, Calls Tryz.prog 11 #[.string s] W fun e w' => e = .returned (.bool true) ∧ W = w') (h0 : 0 < s.size) (_h7 : (0 : Int) < (s.size : Int)) (hb : ∀ k (h : k < s.size), ((s[k]'h).toNat : Int) = bt s k) (h8 : bt s 0 = 95) :
    Calls Tryz.prog 6 #[.agg #[.string ⟨#[118, 97, 114]⟩, .string s, .int .i64 0, .slice a 0 cap], .string ⟨#[c]⟩] w (Tru false w) := by
  have Hw := Lib.hid hw
  clear hw
  go_enter Tryz.func6, Tryz.ntmps6
  go_wp2_with (go_at_call 11; refine (Hw.out _).mono ?_; rintro e w' ⟨rfl, rfl⟩)
  all_goals (go_ret; exact ⟨rfl, (Below.refl _ _).alloc (Nat.le_refl _) _⟩)

set_option maxHeartbeats 2000000 in
set_option maxRecDepth 100000 in
theorem sVar_n (w : World) (cap : Nat) (a : Option Addr) (c : UInt8) (hw : ∀ W : World, Calls Tryz.prog 11 #[.string ⟨#[108, 101, 110]⟩] W fun e w' => e = .returned (.bool true) ∧ W = w') :
    Calls Tryz.prog 6 #[.agg #[.string ⟨#[118, 97, 114]⟩, .string ⟨#[108, 101, 110]⟩, .int .i64 0, .slice a 0 cap], .string ⟨#[c]⟩] w (Tru false w) := by
  have Hw := Lib.hid hw
  clear hw
  go_enter Tryz.func6, Tryz.ntmps6
  go_wp2_with (go_at_call 11; refine (Hw.out _).mono ?_; rintro e w' ⟨rfl, rfl⟩)
  all_goals (go_ret; exact ⟨rfl, (Below.refl _ _).alloc (Nat.le_refl _) _⟩)

set_option maxHeartbeats 2000000 in
set_option maxRecDepth 100000 in
theorem sVar_i (w : World) (cap : Nat) (a : Option Addr) (s : ByteArray) (_hs : s.size ≤ 1048576) (h1 : s.toList.isEmpty = false) (_h2 : (!s.toList.isEmpty) = true) (hw : ∀ W : World, Calls Tryz.prog 11 #[.string s] W fun e w' => e = .returned (.bool true) ∧ W = w') (h0 : 0 < s.size) (_h7 : (0 : Int) < (s.size : Int)) (hb : ∀ k (h : k < s.size), ((s[k]'h).toNat : Int) = bt s k) (_h8 : (bt s 0 == 95) = false) (h9 : (bt s 0 != 95) = true) (q1 : (s.toList == [108, 101, 110]) = false) (_q2 : (s.toList != [108, 101, 110]) = true) :
    Calls Tryz.prog 6 #[.agg #[.string ⟨#[118, 97, 114]⟩, .string s, .int .i64 0, .slice a 0 cap], .string ⟨#[105]⟩] w (Tru false w) := by
  have Hw := Lib.hid hw
  clear hw
  go_enter Tryz.func6, Tryz.ntmps6
  go_wp2_with (go_at_call 11; refine (Hw.out _).mono ?_; rintro e w' ⟨rfl, rfl⟩)
  all_goals (go_ret; exact ⟨rfl, (Below.refl _ _).alloc (Nat.le_refl _) _⟩)

set_option maxHeartbeats 2000000 in
set_option maxRecDepth 100000 in
theorem sVar_y (w : World) (cap : Nat) (a : Option Addr) (s : ByteArray) (_hs : s.size ≤ 1048576) (h1 : s.toList.isEmpty = false) (_h2 : (!s.toList.isEmpty) = true) (hw : ∀ W : World, Calls Tryz.prog 11 #[.string s] W fun e w' => e = .returned (.bool true) ∧ W = w') (h0 : 0 < s.size) (_h7 : (0 : Int) < (s.size : Int)) (hb : ∀ k (h : k < s.size), ((s[k]'h).toNat : Int) = bt s k) (_h8 : (bt s 0 == 95) = false) (h9 : (bt s 0 != 95) = true) (q1 : (s.toList == [108, 101, 110]) = false) (_q2 : (s.toList != [108, 101, 110]) = true) (s1 : ByteArray) (_hs1 : s1.size ≤ 1) (p1 : (s1.toList == [105]) = false) (_p2 : (s1.toList != [105]) = true) :
    Calls Tryz.prog 6 #[.agg #[.string ⟨#[118, 97, 114]⟩, .string s, .int .i64 0, .slice a 0 cap], .string s1] w (Tru true w) := by
  have Hw := Lib.hid hw
  clear hw
  go_enter Tryz.func6, Tryz.ntmps6
  go_wp2_with (go_at_call 11; refine (Hw.out _).mono ?_; rintro e w' ⟨rfl, rfl⟩)
  all_goals (go_ret; exact ⟨rfl, (Below.refl _ _).alloc (Nat.le_refl _) _⟩)

set_option maxHeartbeats 2000000 in
set_option maxRecDepth 100000 in
theorem sInt_w (w : World) (cap : Nat) (a : Option Addr) (s : ByteArray) (_hs : s.size ≤ 1048576) (z : Int) (n : Nat) (_hn : n ≤ 1048576) (s1 : ByteArray) (_hs1 : s1.size ≤ 1) (p1 : (s1.toList == [105]) = false) (_p2 : (s1.toList != [105]) = true) :
    Calls Tryz.prog 6 #[.agg #[.string ⟨#[105, 110, 116]⟩, .string s, .int .i64 z, .slice a n cap], .string s1] w (Tru false w) := by
  go_enter Tryz.func6, Tryz.ntmps6
  go_wp2_with fail
  all_goals (go_ret; exact ⟨rfl, (Below.refl _ _).alloc (Nat.le_refl _) _⟩)

set_option maxHeartbeats 2000000 in
set_option maxRecDepth 100000 in
theorem sInt_n (w : World) (cap : Nat) (a : Option Addr) (s : ByteArray) (_hs : s.size ≤ 1048576) (h1 : s.toList.isEmpty = false) (_h2 : (!s.toList.isEmpty) = true) (z : Int) (n : Nat) (_hn : n ≤ 1048576) :
    Calls Tryz.prog 6 #[.agg #[.string ⟨#[105, 110, 116]⟩, .string s, .int .i64 z, .slice a n cap], .string ⟨#[105]⟩] w (Tru false w) := by
  go_enter Tryz.func6, Tryz.ntmps6
  go_wp2_with fail
  all_goals (go_ret; exact ⟨rfl, (Below.refl _ _).alloc (Nat.le_refl _) _⟩)

set_option maxHeartbeats 2000000 in
set_option maxRecDepth 100000 in
theorem sInt_z (w : World) (cap : Nat) (a : Option Addr) (z : Int) (_hz : z < 0) (h3 : (z == 0) = false) (h4 : decide (0 ≤ z) = false) (n : Nat) (_hn : n ≤ 1048576) :
    Calls Tryz.prog 6 #[.agg #[.string ⟨#[105, 110, 116]⟩, .string ⟨#[]⟩, .int .i64 z, .slice a n cap], .string ⟨#[105]⟩] w (Tru false w) := by
  go_enter Tryz.func6, Tryz.ntmps6
  go_wp2_with fail
  all_goals (go_ret; exact ⟨rfl, (Below.refl _ _).alloc (Nat.le_refl _) _⟩)

set_option maxHeartbeats 2000000 in
set_option maxRecDepth 100000 in
theorem sInt_g (w : World) (cap : Nat) (a : Option Addr) (z : Int) (_hz : 1099511627776 ≤ z) (h3 : (z == 0) = false) (h4 : decide (0 ≤ z) = true) (h5 : decide (z < 1099511627776) = false) (n : Nat) (_hn : n ≤ 1048576) :
    Calls Tryz.prog 6 #[.agg #[.string ⟨#[105, 110, 116]⟩, .string ⟨#[]⟩, .int .i64 z, .slice a n cap], .string ⟨#[105]⟩] w (Tru false w) := by
  go_enter Tryz.func6, Tryz.ntmps6
  go_wp2_with fail
  all_goals (go_ret; exact ⟨rfl, (Below.refl _ _).alloc (Nat.le_refl _) _⟩)

set_option maxHeartbeats 2000000 in
set_option maxRecDepth 100000 in
theorem sInt_l (w : World) (cap : Nat) (a : Option Addr) (z : Int) (hz : 0 ≤ z) (hg : z < 1099511627776) (n : Nat) (_hn : n ≤ 1048576) (h5 : ((n : Int) == 0) = false) (_h6 : (n == 0) = false) :
    Calls Tryz.prog 6 #[.agg #[.string ⟨#[105, 110, 116]⟩, .string ⟨#[]⟩, .int .i64 z, .slice a n cap], .string ⟨#[105]⟩] w (Tru false w) := by
  go_enter Tryz.func6, Tryz.ntmps6
  go_wp2_with fail
  all_goals (go_ret; exact ⟨rfl, (Below.refl _ _).alloc (Nat.le_refl _) _⟩)

set_option maxHeartbeats 2000000 in
set_option maxRecDepth 100000 in
theorem sInt_y (w : World) (cap : Nat) (a : Option Addr) (z : Int) (hz : 0 ≤ z) (hg : z < 1099511627776) :
    Calls Tryz.prog 6 #[.agg #[.string ⟨#[105, 110, 116]⟩, .string ⟨#[]⟩, .int .i64 z, .slice a 0 cap], .string ⟨#[105]⟩] w (Tru true w) := by
  go_enter Tryz.func6, Tryz.ntmps6
  go_wp2_with fail
  all_goals (go_ret; exact ⟨rfl, (Below.refl _ _).alloc (Nat.le_refl _) _⟩)

set_option maxHeartbeats 2000000 in
set_option maxRecDepth 100000 in
theorem sElse (w : World) (cap : Nat) (a : Option Addr) (s : ByteArray) (_hs : s.size ≤ 1048576) (z : Int) (n : Nat) (_hn : n ≤ 1048576) (k s1 : ByteArray) (e0 : (k.toList == [118, 97, 114]) = false) (e1 : (k.toList == [105, 110, 116]) = false) (e2 : (k.toList == [112, 111, 115]) = false) (e3 : (k.toList == [101, 110, 100]) = false) (e4 : (k.toList == [97, 100, 100]) = false) (e5 : (k.toList == [99, 104, 111, 105, 99, 101]) = false) (e6 : (k.toList == [110, 111, 100, 101, 115]) = false) (e7 : (k.toList == [105, 110, 100, 101, 120]) = false) (e8 : (k.toList == [108, 97, 115, 116]) = false) (e9 : (k.toList == [108, 101, 110]) = false) (e10 : (k.toList == [105, 102]) = false) :
    Calls Tryz.prog 6 #[.agg #[.string k, .string s, .int .i64 z, .slice a n cap], .string s1] w (Tru false w) := by
  go_enter Tryz.func6, Tryz.ntmps6
  go_wp2_with fail
  all_goals (go_ret; exact ⟨rfl, (Below.refl _ _).alloc (Nat.le_refl _) _⟩)
end Go.Proofs.YthpianlilipggaaGreatDoor
