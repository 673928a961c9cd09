/- The law's test of sorts, kind by kind: sPos, sEnd, sLast, sLen. Condition: at most 2^20 letters and parts. -/
import Derived.Test.YthpianlilipggaaGreatDoorVz
namespace Go.Proofs.YthpianlilipggaaGreatDoor
open Go.RowKit Go.PlainAid

set_option maxHeartbeats 2000000 in
set_option maxRecDepth 100000 in
theorem sPos_w (w : World) (cap : Nat) (a : Option Addr) (s : ByteArray) (_hs : s.size ≤ 1048576) (z : Int) (n : Nat) (_hn : n ≤ 1048576) (s1 : ByteArray) (_hs1 : s1.size ≤ 1) (p1 : (s1.toList == [112]) = false) (_p2 : (s1.toList != [112]) = true) :
    Calls Tryz.prog 6 #[.agg #[.string ⟨#[112, 111, 115]⟩, .string s, .int .i64 z, .slice a n cap], .string s1] w (Tru false w) := by
  go_enter Tryz.func6, Tryz.ntmps6
  go_wp2_with fail
  all_goals (go_ret; exact ⟨rfl, (Below.refl _ _).alloc (Nat.le_refl _) _⟩)

set_option maxHeartbeats 2000000 in
set_option maxRecDepth 100000 in
theorem sPos_p1 (w : World) (cap : Nat) (a : Option Addr) (s : ByteArray) (_hs : s.size ≤ 1048576) (h1 : s.toList.isEmpty = false) (_h2 : (!s.toList.isEmpty) = true) (z : Int) (n : Nat) (_hn : n ≤ 1048576) :
    Calls Tryz.prog 6 #[.agg #[.string ⟨#[112, 111, 115]⟩, .string s, .int .i64 z, .slice a n cap], .string ⟨#[112]⟩] w (Tru false w) := by
  go_enter Tryz.func6, Tryz.ntmps6
  go_wp2_with fail
  all_goals (go_ret; exact ⟨rfl, (Below.refl _ _).alloc (Nat.le_refl _) _⟩)

set_option maxHeartbeats 2000000 in
set_option maxRecDepth 100000 in
theorem sPos_p2 (w : World) (cap : Nat) (a : Option Addr) (z : Int) (h3 : (z == 0) = false) (n : Nat) (_hn : n ≤ 1048576) :
    Calls Tryz.prog 6 #[.agg #[.string ⟨#[112, 111, 115]⟩, .string ⟨#[]⟩, .int .i64 z, .slice a n cap], .string ⟨#[112]⟩] w (Tru false w) := by
  go_enter Tryz.func6, Tryz.ntmps6
  go_wp2_with fail
  all_goals (go_ret; exact ⟨rfl, (Below.refl _ _).alloc (Nat.le_refl _) _⟩)

set_option maxHeartbeats 2000000 in
set_option maxRecDepth 100000 in
theorem sPos_l (w : World) (cap : Nat) (a : Option Addr) (n : Nat) (_hn : n ≤ 1048576) (h5 : ((n : Int) == 1) = false) (_h6 : (n == 1) = false) :
    Calls Tryz.prog 6 #[.agg #[.string ⟨#[112, 111, 115]⟩, .string ⟨#[]⟩, .int .i64 0, .slice a n cap], .string ⟨#[112]⟩] w (Tru false w) := by
  go_enter Tryz.func6, Tryz.ntmps6
  go_wp2_with fail
  all_goals (go_ret; exact ⟨rfl, (Below.refl _ _).alloc (Nat.le_refl _) _⟩)

set_option maxHeartbeats 2000000 in
set_option maxRecDepth 100000 in
theorem sPos_c0 (w : World) (cap : Nat) (a : Option Addr) (B : Nat → UInt8 → Bool) (Hi : ∀ (i : Nat) (d : UInt8) (W : World), Below (w.alloc (.cells #[.string ⟨#[112, 111, 115]⟩, .string ⟨#[]⟩, .int .i64 0, .slice a 1 cap] 24)).heap.size (w.alloc (.cells #[.string ⟨#[112, 111, 115]⟩, .string ⟨#[]⟩, .int .i64 0, .slice a 1 cap] 24)) W → i ≤ 16777216 → Calls Tryz.prog 10 #[.int .i64 (i : Int), .string ⟨#[d]⟩, .pointer (some ⟨w.heap.size, 0, none⟩)] W (Tru (B i d) W)) (hB0 : B 0 110 = false) :
    Calls Tryz.prog 6 #[.agg #[.string ⟨#[112, 111, 115]⟩, .string ⟨#[]⟩, .int .i64 0, .slice a 1 cap], .string ⟨#[112]⟩] w (Tru false w) := by
  have hn := atB_new w #[.string ⟨#[112, 111, 115]⟩, .string ⟨#[]⟩, .int .i64 0, .slice a 1 cap] 24
  have hbl := (Below.refl w.heap.size w).alloc (Nat.le_refl _) (.cells #[.string ⟨#[112, 111, 115]⟩, .string ⟨#[]⟩, .int .i64 0, .slice a 1 cap] 24)
  have Hn := Lib.hid (And.intro hn hbl)
  have HI := Lib.hid Hi
  clear hn hbl Hi
  have HB0 := Lib.hid hB0
  clear hB0
  go_enter Tryz.func6, Tryz.ntmps6
  go_wp2_with fail
  refine (HI.out 0 110 _ (Below.refl _ _) (by omega)).mono ?_
  rw [HB0.out]
  rintro r0 w0 ⟨rfl, hb0⟩
  have Hb0 := Lib.hid (hb0)
  clear hb0
  have d0 : w0.cell? ⟨w.heap.size, 3, none⟩ = some (.slice a 1 cap) := (Hn.out.1.below Hb0.out).cell 3
  go_wp2_with fail
  go_ret
  exact ⟨rfl, Hn.out.2.trans (Hb0.out.mono Hn.out.2.size)⟩

set_option maxHeartbeats 2000000 in
set_option maxRecDepth 100000 in
theorem sPos_y (w : World) (cap : Nat) (a : Option Addr) (B : Nat → UInt8 → Bool) (Hi : ∀ (i : Nat) (d : UInt8) (W : World), Below (w.alloc (.cells #[.string ⟨#[112, 111, 115]⟩, .string ⟨#[]⟩, .int .i64 0, .slice a 1 cap] 24)).heap.size (w.alloc (.cells #[.string ⟨#[112, 111, 115]⟩, .string ⟨#[]⟩, .int .i64 0, .slice a 1 cap] 24)) W → i ≤ 16777216 → Calls Tryz.prog 10 #[.int .i64 (i : Int), .string ⟨#[d]⟩, .pointer (some ⟨w.heap.size, 0, none⟩)] W (Tru (B i d) W)) (hB0 : B 0 110 = true) :
    Calls Tryz.prog 6 #[.agg #[.string ⟨#[112, 111, 115]⟩, .string ⟨#[]⟩, .int .i64 0, .slice a 1 cap], .string ⟨#[112]⟩] w (Tru true w) := by
  have hn := atB_new w #[.string ⟨#[112, 111, 115]⟩, .string ⟨#[]⟩, .int .i64 0, .slice a 1 cap] 24
  have hbl := (Below.refl w.heap.size w).alloc (Nat.le_refl _) (.cells #[.string ⟨#[112, 111, 115]⟩, .string ⟨#[]⟩, .int .i64 0, .slice a 1 cap] 24)
  have Hn := Lib.hid (And.intro hn hbl)
  have HI := Lib.hid Hi
  clear hn hbl Hi
  have HB0 := Lib.hid hB0
  clear hB0
  go_enter Tryz.func6, Tryz.ntmps6
  go_wp2_with fail
  refine (HI.out 0 110 _ (Below.refl _ _) (by omega)).mono ?_
  rw [HB0.out]
  rintro r0 w0 ⟨rfl, hb0⟩
  have Hb0 := Lib.hid (hb0)
  clear hb0
  have d0 : w0.cell? ⟨w.heap.size, 3, none⟩ = some (.slice a 1 cap) := (Hn.out.1.below Hb0.out).cell 3
  go_wp2_with fail
  go_ret
  exact ⟨rfl, Hn.out.2.trans (Hb0.out.mono Hn.out.2.size)⟩

set_option maxHeartbeats 2000000 in
set_option maxRecDepth 100000 in
theorem sEnd_w (w : World) (cap : Nat) (a : Option Addr) (s : ByteArray) (_hs : s.size ≤ 1048576) (z : Int) (n : Nat) (_hn : n ≤ 1048576) (s1 : ByteArray) (_hs1 : s1.size ≤ 1) (p1 : (s1.toList == [112]) = false) (_p2 : (s1.toList != [112]) = true) :
    Calls Tryz.prog 6 #[.agg #[.string ⟨#[101, 110, 100]⟩, .string s, .int .i64 z, .slice a n cap], .string s1] w (Tru false w) := by
  go_enter Tryz.func6, Tryz.ntmps6
  go_wp2_with fail
  all_goals (go_ret; exact ⟨rfl, (Below.refl _ _).alloc (Nat.le_refl _) _⟩)

set_option maxHeartbeats 2000000 in
set_option maxRecDepth 100000 in
theorem sEnd_p1 (w : World) (cap : Nat) (a : Option Addr) (s : ByteArray) (_hs : s.size ≤ 1048576) (h1 : s.toList.isEmpty = false) (_h2 : (!s.toList.isEmpty) = true) (z : Int) (n : Nat) (_hn : n ≤ 1048576) :
    Calls Tryz.prog 6 #[.agg #[.string ⟨#[101, 110, 100]⟩, .string s, .int .i64 z, .slice a n cap], .string ⟨#[112]⟩] w (Tru false w) := by
  go_enter Tryz.func6, Tryz.ntmps6
  go_wp2_with fail
  all_goals (go_ret; exact ⟨rfl, (Below.refl _ _).alloc (Nat.le_refl _) _⟩)

set_option maxHeartbeats 2000000 in
set_option maxRecDepth 100000 in
theorem sEnd_p2 (w : World) (cap : Nat) (a : Option Addr) (z : Int) (h3 : (z == 0) = false) (n : Nat) (_hn : n ≤ 1048576) :
    Calls Tryz.prog 6 #[.agg #[.string ⟨#[101, 110, 100]⟩, .string ⟨#[]⟩, .int .i64 z, .slice a n cap], .string ⟨#[112]⟩] w (Tru false w) := by
  go_enter Tryz.func6, Tryz.ntmps6
  go_wp2_with fail
  all_goals (go_ret; exact ⟨rfl, (Below.refl _ _).alloc (Nat.le_refl _) _⟩)

set_option maxHeartbeats 2000000 in
set_option maxRecDepth 100000 in
theorem sEnd_l (w : World) (cap : Nat) (a : Option Addr) (n : Nat) (_hn : n ≤ 1048576) (h5 : ((n : Int) == 1) = false) (_h6 : (n == 1) = false) :
    Calls Tryz.prog 6 #[.agg #[.string ⟨#[101, 110, 100]⟩, .string ⟨#[]⟩, .int .i64 0, .slice a n cap], .string ⟨#[112]⟩] w (Tru false w) := by
  go_enter Tryz.func6, Tryz.ntmps6
  go_wp2_with fail
  all_goals (go_ret; exact ⟨rfl, (Below.refl _ _).alloc (Nat.le_refl _) _⟩)

set_option maxHeartbeats 2000000 in
set_option maxRecDepth 100000 in
theorem sEnd_c0 (w : World) (cap : Nat) (a : Option Addr) (B : Nat → UInt8 → Bool) (Hi : ∀ (i : Nat) (d : UInt8) (W : World), Below (w.alloc (.cells #[.string ⟨#[101, 110, 100]⟩, .string ⟨#[]⟩, .int .i64 0, .slice a 1 cap] 24)).heap.size (w.alloc (.cells #[.string ⟨#[101, 110, 100]⟩, .string ⟨#[]⟩, .int .i64 0, .slice a 1 cap] 24)) W → i ≤ 16777216 → Calls Tryz.prog 10 #[.int .i64 (i : Int), .string ⟨#[d]⟩, .pointer (some ⟨w.heap.size, 0, none⟩)] W (Tru (B i d) W)) (hB0 : B 0 110 = false) :
    Calls Tryz.prog 6 #[.agg #[.string ⟨#[101, 110, 100]⟩, .string ⟨#[]⟩, .int .i64 0, .slice a 1 cap], .string ⟨#[112]⟩] w (Tru false w) := by
  have hn := atB_new w #[.string ⟨#[101, 110, 100]⟩, .string ⟨#[]⟩, .int .i64 0, .slice a 1 cap] 24
  have hbl := (Below.refl w.heap.size w).alloc (Nat.le_refl _) (.cells #[.string ⟨#[101, 110, 100]⟩, .string ⟨#[]⟩, .int .i64 0, .slice a 1 cap] 24)
  have Hn := Lib.hid (And.intro hn hbl)
  have HI := Lib.hid Hi
  clear hn hbl Hi
  have HB0 := Lib.hid hB0
  clear hB0
  go_enter Tryz.func6, Tryz.ntmps6
  go_wp2_with fail
  refine (HI.out 0 110 _ (Below.refl _ _) (by omega)).mono ?_
  rw [HB0.out]
  rintro r0 w0 ⟨rfl, hb0⟩
  have Hb0 := Lib.hid (hb0)
  clear hb0
  have d0 : w0.cell? ⟨w.heap.size, 3, none⟩ = some (.slice a 1 cap) := (Hn.out.1.below Hb0.out).cell 3
  go_wp2_with fail
  go_ret
  exact ⟨rfl, Hn.out.2.trans (Hb0.out.mono Hn.out.2.size)⟩

set_option maxHeartbeats 2000000 in
set_option maxRecDepth 100000 in
theorem sEnd_y (w : World) (cap : Nat) (a : Option Addr) (B : Nat → UInt8 → Bool) (Hi : ∀ (i : Nat) (d : UInt8) (W : World), Below (w.alloc (.cells #[.string ⟨#[101, 110, 100]⟩, .string ⟨#[]⟩, .int .i64 0, .slice a 1 cap] 24)).heap.size (w.alloc (.cells #[.string ⟨#[101, 110, 100]⟩, .string ⟨#[]⟩, .int .i64 0, .slice a 1 cap] 24)) W → i ≤ 16777216 → Calls Tryz.prog 10 #[.int .i64 (i : Int), .string ⟨#[d]⟩, .pointer (some ⟨w.heap.size, 0, none⟩)] W (Tru (B i d) W)) (hB0 : B 0 110 = true) :
    Calls Tryz.prog 6 #[.agg #[.string ⟨#[101, 110, 100]⟩, .string ⟨#[]⟩, .int .i64 0, .slice a 1 cap], .string ⟨#[112]⟩] w (Tru true w) := by
  have hn := atB_new w #[.string ⟨#[101, 110, 100]⟩, .string ⟨#[]⟩, .int .i64 0, .slice a 1 cap] 24
  have hbl := (Below.refl w.heap.size w).alloc (Nat.le_refl _) (.cells #[.string ⟨#[101, 110, 100]⟩, .string ⟨#[]⟩, .int .i64 0, .slice a 1 cap] 24)
  have Hn := Lib.hid (And.intro hn hbl)
  have HI := Lib.hid Hi
  clear hn hbl Hi
  have HB0 := Lib.hid hB0
  clear hB0
  go_enter Tryz.func6, Tryz.ntmps6
  go_wp2_with fail
  refine (HI.out 0 110 _ (Below.refl _ _) (by omega)).mono ?_
  rw [HB0.out]
  rintro r0 w0 ⟨rfl, hb0⟩
  have Hb0 := Lib.hid (hb0)
  clear hb0
  have d0 : w0.cell? ⟨w.heap.size, 3, none⟩ = some (.slice a 1 cap) := (Hn.out.1.below Hb0.out).cell 3
  go_wp2_with fail
  go_ret
  exact ⟨rfl, Hn.out.2.trans (Hb0.out.mono Hn.out.2.size)⟩

set_option maxHeartbeats 2000000 in
set_option maxRecDepth 100000 in
theorem sLast_w (w : World) (cap : Nat) (a : Option Addr) (s : ByteArray) (_hs : s.size ≤ 1048576) (z : Int) (n : Nat) (_hn : n ≤ 1048576) (s1 : ByteArray) (_hs1 : s1.size ≤ 1) (p1 : (s1.toList == [110]) = false) (_p2 : (s1.toList != [110]) = true) :
    Calls Tryz.prog 6 #[.agg #[.string ⟨#[108, 97, 115, 116]⟩, .string s, .int .i64 z, .slice a n cap], .string s1] w (Tru false w) := by
  go_enter Tryz.func6, Tryz.ntmps6
  go_wp2_with fail
  all_goals (go_ret; exact ⟨rfl, (Below.refl _ _).alloc (Nat.le_refl _) _⟩)

set_option maxHeartbeats 2000000 in
set_option maxRecDepth 100000 in
theorem sLast_p1 (w : World) (cap : Nat) (a : Option Addr) (s : ByteArray) (_hs : s.size ≤ 1048576) (h1 : s.toList.isEmpty = false) (_h2 : (!s.toList.isEmpty) = true) (z : Int) (n : Nat) (_hn : n ≤ 1048576) :
    Calls Tryz.prog 6 #[.agg #[.string ⟨#[108, 97, 115, 116]⟩, .string s, .int .i64 z, .slice a n cap], .string ⟨#[110]⟩] w (Tru false w) := by
  go_enter Tryz.func6, Tryz.ntmps6
  go_wp2_with fail
  all_goals (go_ret; exact ⟨rfl, (Below.refl _ _).alloc (Nat.le_refl _) _⟩)

set_option maxHeartbeats 2000000 in
set_option maxRecDepth 100000 in
theorem sLast_p2 (w : World) (cap : Nat) (a : Option Addr) (z : Int) (h3 : (z == 0) = false) (n : Nat) (_hn : n ≤ 1048576) :
    Calls Tryz.prog 6 #[.agg #[.string ⟨#[108, 97, 115, 116]⟩, .string ⟨#[]⟩, .int .i64 z, .slice a n cap], .string ⟨#[110]⟩] w (Tru false w) := by
  go_enter Tryz.func6, Tryz.ntmps6
  go_wp2_with fail
  all_goals (go_ret; exact ⟨rfl, (Below.refl _ _).alloc (Nat.le_refl _) _⟩)

set_option maxHeartbeats 2000000 in
set_option maxRecDepth 100000 in
theorem sLast_l (w : World) (cap : Nat) (a : Option Addr) (n : Nat) (_hn : n ≤ 1048576) (h5 : ((n : Int) == 1) = false) (_h6 : (n == 1) = false) :
    Calls Tryz.prog 6 #[.agg #[.string ⟨#[108, 97, 115, 116]⟩, .string ⟨#[]⟩, .int .i64 0, .slice a n cap], .string ⟨#[110]⟩] w (Tru false w) := by
  go_enter Tryz.func6, Tryz.ntmps6
  go_wp2_with fail
  all_goals (go_ret; exact ⟨rfl, (Below.refl _ _).alloc (Nat.le_refl _) _⟩)

set_option maxHeartbeats 2000000 in
set_option maxRecDepth 100000 in
theorem sLast_c0 (w : World) (cap : Nat) (a : Option Addr) (B : Nat → UInt8 → Bool) (Hi : ∀ (i : Nat) (d : UInt8) (W : World), Below (w.alloc (.cells #[.string ⟨#[108, 97, 115, 116]⟩, .string ⟨#[]⟩, .int .i64 0, .slice a 1 cap] 24)).heap.size (w.alloc (.cells #[.string ⟨#[108, 97, 115, 116]⟩, .string ⟨#[]⟩, .int .i64 0, .slice a 1 cap] 24)) W → i ≤ 16777216 → Calls Tryz.prog 10 #[.int .i64 (i : Int), .string ⟨#[d]⟩, .pointer (some ⟨w.heap.size, 0, none⟩)] W (Tru (B i d) W)) (hB0 : B 0 115 = false) :
    Calls Tryz.prog 6 #[.agg #[.string ⟨#[108, 97, 115, 116]⟩, .string ⟨#[]⟩, .int .i64 0, .slice a 1 cap], .string ⟨#[110]⟩] w (Tru false w) := by
  have hn := atB_new w #[.string ⟨#[108, 97, 115, 116]⟩, .string ⟨#[]⟩, .int .i64 0, .slice a 1 cap] 24
  have hbl := (Below.refl w.heap.size w).alloc (Nat.le_refl _) (.cells #[.string ⟨#[108, 97, 115, 116]⟩, .string ⟨#[]⟩, .int .i64 0, .slice a 1 cap] 24)
  have Hn := Lib.hid (And.intro hn hbl)
  have HI := Lib.hid Hi
  clear hn hbl Hi
  have HB0 := Lib.hid hB0
  clear hB0
  go_enter Tryz.func6, Tryz.ntmps6
  go_wp2_with fail
  refine (HI.out 0 115 _ (Below.refl _ _) (by omega)).mono ?_
  rw [HB0.out]
  rintro r0 w0 ⟨rfl, hb0⟩
  have Hb0 := Lib.hid (hb0)
  clear hb0
  have d0 : w0.cell? ⟨w.heap.size, 3, none⟩ = some (.slice a 1 cap) := (Hn.out.1.below Hb0.out).cell 3
  go_wp2_with fail
  go_ret
  exact ⟨rfl, Hn.out.2.trans (Hb0.out.mono Hn.out.2.size)⟩

set_option maxHeartbeats 2000000 in
set_option maxRecDepth 100000 in
theorem sLast_k (w : World) (cap : Nat) (g o : Nat) (B : Nat → UInt8 → Bool) (Hi : ∀ (i : Nat) (d : UInt8) (W : World), Below (w.alloc (.cells #[.string ⟨#[108, 97, 115, 116]⟩, .string ⟨#[]⟩, .int .i64 0, .slice (some ⟨g, o, none⟩) 1 cap] 24)).heap.size (w.alloc (.cells #[.string ⟨#[108, 97, 115, 116]⟩, .string ⟨#[]⟩, .int .i64 0, .slice (some ⟨g, o, none⟩) 1 cap] 24)) W → i ≤ 16777216 → Calls Tryz.prog 10 #[.int .i64 (i : Int), .string ⟨#[d]⟩, .pointer (some ⟨w.heap.size, 0, none⟩)] W (Tru (B i d) W)) (hB0 : B 0 115 = true) (s0 : ByteArray) (hk : w.cell? ⟨g, o, none⟩ = some (.string s0)) (q1 : (s0.toList == [118, 97, 114]) = false) (_q2 : (s0.toList != [118, 97, 114]) = true) :
    Calls Tryz.prog 6 #[.agg #[.string ⟨#[108, 97, 115, 116]⟩, .string ⟨#[]⟩, .int .i64 0, .slice (some ⟨g, o, none⟩) 1 cap], .string ⟨#[110]⟩] w (Tru false w) := by
  have hn := atB_new w #[.string ⟨#[108, 97, 115, 116]⟩, .string ⟨#[]⟩, .int .i64 0, .slice (some ⟨g, o, none⟩) 1 cap] 24
  have hbl := (Below.refl w.heap.size w).alloc (Nat.le_refl _) (.cells #[.string ⟨#[108, 97, 115, 116]⟩, .string ⟨#[]⟩, .int .i64 0, .slice (some ⟨g, o, none⟩) 1 cap] 24)
  have Hk := Lib.hid hk
  clear hk
  have Hn := Lib.hid (And.intro hn hbl)
  have HI := Lib.hid Hi
  clear hn hbl Hi
  have HB0 := Lib.hid hB0
  clear hB0
  go_enter Tryz.func6, Tryz.ntmps6
  go_wp2_with fail
  refine (HI.out 0 115 _ (Below.refl _ _) (by omega)).mono ?_
  rw [HB0.out]
  rintro r0 w0 ⟨rfl, hb0⟩
  have Hb0 := Lib.hid (hb0)
  clear hb0
  have d0 : w0.cell? ⟨w.heap.size, 3, none⟩ = some (.slice (some ⟨g, o, none⟩) 1 cap) := (Hn.out.1.below Hb0.out).cell 3
  have e0 : w0.cell? ⟨g, o, none⟩ = some (.string s0) := cell_below (cell_below Hk.out Hn.out.2) Hb0.out
  go_wp2_with fail
  go_ret
  exact ⟨rfl, Hn.out.2.trans (Hb0.out.mono Hn.out.2.size)⟩

set_option maxHeartbeats 2000000 in
set_option maxRecDepth 100000 in
theorem sLast_y (w : World) (cap : Nat) (g o : Nat) (B : Nat → UInt8 → Bool) (Hi : ∀ (i : Nat) (d : UInt8) (W : World), Below (w.alloc (.cells #[.string ⟨#[108, 97, 115, 116]⟩, .string ⟨#[]⟩, .int .i64 0, .slice (some ⟨g, o, none⟩) 1 cap] 24)).heap.size (w.alloc (.cells #[.string ⟨#[108, 97, 115, 116]⟩, .string ⟨#[]⟩, .int .i64 0, .slice (some ⟨g, o, none⟩) 1 cap] 24)) W → i ≤ 16777216 → Calls Tryz.prog 10 #[.int .i64 (i : Int), .string ⟨#[d]⟩, .pointer (some ⟨w.heap.size, 0, none⟩)] W (Tru (B i d) W)) (hB0 : B 0 115 = true) (s0 : ByteArray) (hk : w.cell? ⟨g, o, none⟩ = some (.string s0)) (q1 : (s0.toList == [118, 97, 114]) = true) (_q2 : (s0.toList != [118, 97, 114]) = false) :
    Calls Tryz.prog 6 #[.agg #[.string ⟨#[108, 97, 115, 116]⟩, .string ⟨#[]⟩, .int .i64 0, .slice (some ⟨g, o, none⟩) 1 cap], .string ⟨#[110]⟩] w (Tru true w) := by
  have hn := atB_new w #[.string ⟨#[108, 97, 115, 116]⟩, .string ⟨#[]⟩, .int .i64 0, .slice (some ⟨g, o, none⟩) 1 cap] 24
  have hbl := (Below.refl w.heap.size w).alloc (Nat.le_refl _) (.cells #[.string ⟨#[108, 97, 115, 116]⟩, .string ⟨#[]⟩, .int .i64 0, .slice (some ⟨g, o, none⟩) 1 cap] 24)
  have Hk := Lib.hid hk
  clear hk
  have Hn := Lib.hid (And.intro hn hbl)
  have HI := Lib.hid Hi
  clear hn hbl Hi
  have HB0 := Lib.hid hB0
  clear hB0
  go_enter Tryz.func6, Tryz.ntmps6
  go_wp2_with fail
  refine (HI.out 0 115 _ (Below.refl _ _) (by omega)).mono ?_
  rw [HB0.out]
  rintro r0 w0 ⟨rfl, hb0⟩
  have Hb0 := Lib.hid (hb0)
  clear hb0
  have d0 : w0.cell? ⟨w.heap.size, 3, none⟩ = some (.slice (some ⟨g, o, none⟩) 1 cap) := (Hn.out.1.below Hb0.out).cell 3
  have e0 : w0.cell? ⟨g, o, none⟩ = some (.string s0) := cell_below (cell_below Hk.out Hn.out.2) Hb0.out
  go_wp2_with fail
  go_ret
  exact ⟨rfl, Hn.out.2.trans (Hb0.out.mono Hn.out.2.size)⟩

set_option maxHeartbeats 2000000 in
set_option maxRecDepth 100000 in
theorem sLen_w (w : World) (cap : Nat) (a : Option Addr) (s : ByteArray) (_hs : s.size ≤ 1048576) (z : Int) (n : Nat) (_hn : n ≤ 1048576) (s1 : ByteArray) (_hs1 : s1.size ≤ 1) (p1 : (s1.toList == [105]) = false) (_p2 : (s1.toList != [105]) = true) :
    Calls Tryz.prog 6 #[.agg #[.string ⟨#[108, 101, 110]⟩, .string s, .int .i64 z, .slice a n cap], .string s1] w (Tru false w) := by
  go_enter Tryz.func6, Tryz.ntmps6
  go_wp2_with fail
  all_goals (go_ret; exact ⟨rfl, (Below.refl _ _).alloc (Nat.le_refl _) _⟩)

set_option maxHeartbeats 2000000 in
set_option maxRecDepth 100000 in
theorem sLen_p1 (w : World) (cap : Nat) (a : Option Addr) (s : ByteArray) (_hs : s.size ≤ 1048576) (h1 : s.toList.isEmpty = false) (_h2 : (!s.toList.isEmpty) = true) (z : Int) (n : Nat) (_hn : n ≤ 1048576) :
    Calls Tryz.prog 6 #[.agg #[.string ⟨#[108, 101, 110]⟩, .string s, .int .i64 z, .slice a n cap], .string ⟨#[105]⟩] w (Tru false w) := by
  go_enter Tryz.func6, Tryz.ntmps6
  go_wp2_with fail
  all_goals (go_ret; exact ⟨rfl, (Below.refl _ _).alloc (Nat.le_refl _) _⟩)

set_option maxHeartbeats 2000000 in
set_option maxRecDepth 100000 in
theorem sLen_p2 (w : World) (cap : Nat) (a : Option Addr) (z : Int) (h3 : (z == 0) = false) (n : Nat) (_hn : n ≤ 1048576) :
    Calls Tryz.prog 6 #[.agg #[.string ⟨#[108, 101, 110]⟩, .string ⟨#[]⟩, .int .i64 z, .slice a n cap], .string ⟨#[105]⟩] w (Tru false w) := by
  go_enter Tryz.func6, Tryz.ntmps6
  go_wp2_with fail
  all_goals (go_ret; exact ⟨rfl, (Below.refl _ _).alloc (Nat.le_refl _) _⟩)

set_option maxHeartbeats 2000000 in
set_option maxRecDepth 100000 in
theorem sLen_l (w : World) (cap : Nat) (a : Option Addr) (n : Nat) (_hn : n ≤ 1048576) (h5 : ((n : Int) == 1) = false) (_h6 : (n == 1) = false) :
    Calls Tryz.prog 6 #[.agg #[.string ⟨#[108, 101, 110]⟩, .string ⟨#[]⟩, .int .i64 0, .slice a n cap], .string ⟨#[105]⟩] w (Tru false w) := by
  go_enter Tryz.func6, Tryz.ntmps6
  go_wp2_with fail
  all_goals (go_ret; exact ⟨rfl, (Below.refl _ _).alloc (Nat.le_refl _) _⟩)

set_option maxHeartbeats 2000000 in
set_option maxRecDepth 100000 in
theorem sLen_c0 (w : World) (cap : Nat) (a : Option Addr) (B : Nat → UInt8 → Bool) (Hi : ∀ (i : Nat) (d : UInt8) (W : World), Below (w.alloc (.cells #[.string ⟨#[108, 101, 110]⟩, .string ⟨#[]⟩, .int .i64 0, .slice a 1 cap] 24)).heap.size (w.alloc (.cells #[.string ⟨#[108, 101, 110]⟩, .string ⟨#[]⟩, .int .i64 0, .slice a 1 cap] 24)) W → i ≤ 16777216 → Calls Tryz.prog 10 #[.int .i64 (i : Int), .string ⟨#[d]⟩, .pointer (some ⟨w.heap.size, 0, none⟩)] W (Tru (B i d) W)) (hB0 : B 0 115 = false) :
    Calls Tryz.prog 6 #[.agg #[.string ⟨#[108, 101, 110]⟩, .string ⟨#[]⟩, .int .i64 0, .slice a 1 cap], .string ⟨#[105]⟩] w (Tru false w) := by
  have hn := atB_new w #[.string ⟨#[108, 101, 110]⟩, .string ⟨#[]⟩, .int .i64 0, .slice a 1 cap] 24
  have hbl := (Below.refl w.heap.size w).alloc (Nat.le_refl _) (.cells #[.string ⟨#[108, 101, 110]⟩, .string ⟨#[]⟩, .int .i64 0, .slice a 1 cap] 24)
  have Hn := Lib.hid (And.intro hn hbl)
  have HI := Lib.hid Hi
  clear hn hbl Hi
  have HB0 := Lib.hid hB0
  clear hB0
  go_enter Tryz.func6, Tryz.ntmps6
  go_wp2_with fail
  refine (HI.out 0 115 _ (Below.refl _ _) (by omega)).mono ?_
  rw [HB0.out]
  rintro r0 w0 ⟨rfl, hb0⟩
  have Hb0 := Lib.hid (hb0)
  clear hb0
  have d0 : w0.cell? ⟨w.heap.size, 3, none⟩ = some (.slice a 1 cap) := (Hn.out.1.below Hb0.out).cell 3
  go_wp2_with fail
  go_ret
  exact ⟨rfl, Hn.out.2.trans (Hb0.out.mono Hn.out.2.size)⟩

set_option maxHeartbeats 2000000 in
set_option maxRecDepth 100000 in
theorem sLen_k (w : World) (cap : Nat) (g o : Nat) (B : Nat → UInt8 → Bool) (Hi : ∀ (i : Nat) (d : UInt8) (W : World), Below (w.alloc (.cells #[.string ⟨#[108, 101, 110]⟩, .string ⟨#[]⟩, .int .i64 0, .slice (some ⟨g, o, none⟩) 1 cap] 24)).heap.size (w.alloc (.cells #[.string ⟨#[108, 101, 110]⟩, .string ⟨#[]⟩, .int .i64 0, .slice (some ⟨g, o, none⟩) 1 cap] 24)) W → i ≤ 16777216 → Calls Tryz.prog 10 #[.int .i64 (i : Int), .string ⟨#[d]⟩, .pointer (some ⟨w.heap.size, 0, none⟩)] W (Tru (B i d) W)) (hB0 : B 0 115 = true) (s0 : ByteArray) (hk : w.cell? ⟨g, o, none⟩ = some (.string s0)) (q1 : (s0.toList == [118, 97, 114]) = false) (_q2 : (s0.toList != [118, 97, 114]) = true) :
    Calls Tryz.prog 6 #[.agg #[.string ⟨#[108, 101, 110]⟩, .string ⟨#[]⟩, .int .i64 0, .slice (some ⟨g, o, none⟩) 1 cap], .string ⟨#[105]⟩] w (Tru false w) := by
  have hn := atB_new w #[.string ⟨#[108, 101, 110]⟩, .string ⟨#[]⟩, .int .i64 0, .slice (some ⟨g, o, none⟩) 1 cap] 24
  have hbl := (Below.refl w.heap.size w).alloc (Nat.le_refl _) (.cells #[.string ⟨#[108, 101, 110]⟩, .string ⟨#[]⟩, .int .i64 0, .slice (some ⟨g, o, none⟩) 1 cap] 24)
  have Hk := Lib.hid hk
  clear hk
  have Hn := Lib.hid (And.intro hn hbl)
  have HI := Lib.hid Hi
  clear hn hbl Hi
  have HB0 := Lib.hid hB0
  clear hB0
  go_enter Tryz.func6, Tryz.ntmps6
  go_wp2_with fail
  refine (HI.out 0 115 _ (Below.refl _ _) (by omega)).mono ?_
  rw [HB0.out]
  rintro r0 w0 ⟨rfl, hb0⟩
  have Hb0 := Lib.hid (hb0)
  clear hb0
  have d0 : w0.cell? ⟨w.heap.size, 3, none⟩ = some (.slice (some ⟨g, o, none⟩) 1 cap) := (Hn.out.1.below Hb0.out).cell 3
  have e0 : w0.cell? ⟨g, o, none⟩ = some (.string s0) := cell_below (cell_below Hk.out Hn.out.2) Hb0.out
  go_wp2_with fail
  go_ret
  exact ⟨rfl, Hn.out.2.trans (Hb0.out.mono Hn.out.2.size)⟩

set_option maxHeartbeats 2000000 in
set_option maxRecDepth 100000 in
theorem sLen_y (w : World) (cap : Nat) (g o : Nat) (B : Nat → UInt8 → Bool) (Hi : ∀ (i : Nat) (d : UInt8) (W : World), Below (w.alloc (.cells #[.string ⟨#[108, 101, 110]⟩, .string ⟨#[]⟩, .int .i64 0, .slice (some ⟨g, o, none⟩) 1 cap] 24)).heap.size (w.alloc (.cells #[.string ⟨#[108, 101, 110]⟩, .string ⟨#[]⟩, .int .i64 0, .slice (some ⟨g, o, none⟩) 1 cap] 24)) W → i ≤ 16777216 → Calls Tryz.prog 10 #[.int .i64 (i : Int), .string ⟨#[d]⟩, .pointer (some ⟨w.heap.size, 0, none⟩)] W (Tru (B i d) W)) (hB0 : B 0 115 = true) (s0 : ByteArray) (hk : w.cell? ⟨g, o, none⟩ = some (.string s0)) (q1 : (s0.toList == [118, 97, 114]) = true) (_q2 : (s0.toList != [118, 97, 114]) = false) :
    Calls Tryz.prog 6 #[.agg #[.string ⟨#[108, 101, 110]⟩, .string ⟨#[]⟩, .int .i64 0, .slice (some ⟨g, o, none⟩) 1 cap], .string ⟨#[105]⟩] w (Tru true w) := by
  have hn := atB_new w #[.string ⟨#[108, 101, 110]⟩, .string ⟨#[]⟩, .int .i64 0, .slice (some ⟨g, o, none⟩) 1 cap] 24
  have hbl := (Below.refl w.heap.size w).alloc (Nat.le_refl _) (.cells #[.string ⟨#[108, 101, 110]⟩, .string ⟨#[]⟩, .int .i64 0, .slice (some ⟨g, o, none⟩) 1 cap] 24)
  have Hk := Lib.hid hk
  clear hk
  have Hn := Lib.hid (And.intro hn hbl)
  have HI := Lib.hid Hi
  clear hn hbl Hi
  have HB0 := Lib.hid hB0
  clear hB0
  go_enter Tryz.func6, Tryz.ntmps6
  go_wp2_with fail
  refine (HI.out 0 115 _ (Below.refl _ _) (by omega)).mono ?_
  rw [HB0.out]
  rintro r0 w0 ⟨rfl, hb0⟩
  have Hb0 := Lib.hid (hb0)
  clear hb0
  have d0 : w0.cell? ⟨w.heap.size, 3, none⟩ = some (.slice (some ⟨g, o, none⟩) 1 cap) := (Hn.out.1.below Hb0.out).cell 3
  have e0 : w0.cell? ⟨g, o, none⟩ = some (.string s0) := cell_below (cell_below Hk.out Hn.out.2) Hb0.out
  go_wp2_with fail
  go_ret
  exact ⟨rfl, Hn.out.2.trans (Hb0.out.mono Hn.out.2.size)⟩
end Go.Proofs.YthpianlilipggaaGreatDoor
