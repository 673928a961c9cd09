/- The law's test of sorts at a choice of parts. Condition: at most 2^20 letters and parts. -/
import Derived.Test.YthpianlilipggaaGreatDoorVz
namespace Go.Proofs.YthpianlilipggaaGreatDoor
open Go.RowKit Go.PlainAid

/-- Are all parts of this sort, and none of this kind? -/
def allOk (k : Bs) (c : UInt8) (l : List PE) : Bool := l.all fun e => e.sortB c && decide (e.kind ≠ k)
theorem allOk_step (k : Bs) (c : UInt8) {l : List PE} {j : Nat} {e : PE} (h : l[j]? = some e) :
    (allOk k c (l.take j) = true → (allOk k c (l.take (j + 1)) = true ↔ e.sortB c = true ∧ e.kind ≠ k)) ∧ ((e.sortB c && decide (e.kind ≠ k)) = false → allOk k c l = false) := by
  obtain ⟨hlt, he⟩ := List.getElem?_eq_some_iff.1 h
  refine ⟨fun h1 => ?_, fun h2 => ?_⟩
  · unfold allOk at h1 ⊢
    rw [List.take_succ_eq_append_getElem hlt, he, List.all_append, h1]
    simp
  · unfold allOk
    rw [List.all_eq_false]
    exact ⟨e, List.mem_of_getElem? h, by rw [h2]; simp⟩
set_option maxHeartbeats 4000000 in
set_option maxRecDepth 100000 in
theorem sChoice_p1 (w : World) (cap : Nat) (a : Option Addr) (l : List PE) (_hl : l.length ≤ 1048576) (_hcap : l.length ≤ cap) (hp : PEsAt w a 0 l) (s : ByteArray) (_hs : s.size ≤ 1048576) (_h1 : s.toList.isEmpty = false) (_h2 : (!s.toList.isEmpty) = true) (z : Int) (s1 : ByteArray) (_hs1 : s1.size ≤ 1) (Hi : ∀ (i : Nat) (d : UInt8) (W : World), Below (w.alloc (.cells #[.string ⟨#[99, 104, 111, 105, 99, 101]⟩, .string s, .int .i64 z, .slice a l.length cap] 24)).heap.size (w.alloc (.cells #[.string ⟨#[99, 104, 111, 105, 99, 101]⟩, .string s, .int .i64 z, .slice a l.length cap] 24)) W → i ≤ 16777216 → Calls Tryz.prog 10 #[.int .i64 (i : Int), .string ⟨#[d]⟩, .pointer (some ⟨w.heap.size, 0, none⟩)] W (Tru (partB l i d) W)) :
    Calls Tryz.prog 6 #[.agg #[.string ⟨#[99, 104, 111, 105, 99, 101]⟩, .string s, .int .i64 z, .slice a l.length cap], .string s1] w (Tru (allOk kChoice 112 l && false) w) := by
  have hn := atB_new w #[.string ⟨#[99, 104, 111, 105, 99, 101]⟩, .string s, .int .i64 z, .slice a l.length cap] 24
  have hbl := (Below.refl w.heap.size w).alloc (Nat.le_refl _) (.cells #[.string ⟨#[99, 104, 111, 105, 99, 101]⟩, .string s, .int .i64 z, .slice a l.length cap] 24)
  have Hn := Lib.hid (And.intro hn hbl)
  have HI := Lib.hid Hi
  have Hp := Lib.hid hp
  have hb0 := Below.refl (w.alloc (.cells #[.string ⟨#[99, 104, 111, 105, 99, 101]⟩, .string s, .int .i64 z, .slice a l.length cap] 24)).heap.size (w.alloc (.cells #[.string ⟨#[99, 104, 111, 105, 99, 101]⟩, .string s, .int .i64 z, .slice a l.length cap] 24))
  clear hn hbl Hi hp
  go_enter Tryz.func6, Tryz.ntmps6
  go_wp2_with fail
  all_goals (go_loopw [128] (fun v wr => ∃ j : Nat, j ≤ l.length ∧ v = .int .i64 j ∧ allOk kChoice 112 (l.take j) = true ∧ Below (w.alloc (.cells #[.string ⟨#[99, 104, 111, 105, 99, 101]⟩, .string s, .int .i64 z, .slice a l.length cap] 24)).heap.size (w.alloc (.cells #[.string ⟨#[99, 104, 111, 105, 99, 101]⟩, .string s, .int .i64 z, .slice a l.length cap] 24)) wr) (fun v _ => l.length - (intOf v).toNat))
  all_goals
    first
    | (case atStart => exact ⟨0, Nat.zero_le _, rfl, rfl, hb0⟩)
    | skip
  all_goals
    obtain ⟨j, hj, rfl, hok, hb⟩ := hrel
    by_cases hlt : j < l.length
    · obtain ⟨e', he'⟩ : ∃ e', l[j]? = some e' := ⟨_, List.getElem?_eq_getElem hlt⟩
      have hst := allOk_step kChoice 112 he'
      obtain ⟨g, o, u, rfl, c0, _, _, _, hu⟩ := PEsAt.at (Hp.out.below Hn.out.2) he'
      rw [Nat.zero_add] at c0
      unfold strV at c0
      have hpb : partB l j 112 = e'.sortB 112 := by rw [partB, he']
      have Hc := Lib.hid (HI.out j 112 wr hb (by omega))
      rw [hpb] at Hc
      have hi0 : (0 : Int) ≤ (j : Int) := by omega
      have hi1 : (j : Int) < (l.length : Int) := by omega
      have Hb := Lib.hid hb
      have Hc0 := Lib.hid c0
      have Hok := Lib.hid hok
      clear hu hb c0 hpb hok hb0
      cases hs : e'.sortB 112 with
      | false =>
        rw [hs] at Hc
        have hfin : allOk kChoice 112 l = false := hst.2 (by rw [hs]; rfl)
        have Hfin := Lib.hid hfin
        clear hfin hst hs he'
        go_wp2_with fail
        refine Hc.out.mono ?_
        rintro r w1 ⟨rfl, hb1⟩
        have Hb1 := Lib.hid (Hb.out.trans (hb1.mono Hb.out.size))
        clear hb1
        go_wp2_with fail
        go_ret
        rw [Hfin.out]
        exact ⟨rfl, Hn.out.2.trans (Hb1.out.mono Hn.out.2.size)⟩
      | true =>
        rw [hs] at Hc
        by_cases hk : e'.kind = kChoice
        · have hfin : allOk kChoice 112 l = false := hst.2 (by rw [hs, hk]; simp)
          have Hfin := Lib.hid hfin
          have q1 : ((⟨e'.kind.toArray⟩ : ByteArray).toList == [99, 104, 111, 105, 99, 101]) = true := by rw [hk, ByteArray.toList_eq]; rfl
          have q2 : ((⟨e'.kind.toArray⟩ : ByteArray).toList != [99, 104, 111, 105, 99, 101]) = false := by rw [bne, q1]; rfl
          generalize (⟨e'.kind.toArray⟩ : ByteArray) = s0 at Hc0 q1 q2
          clear hfin hst hs he' hk
          go_wp2_with fail
          refine Hc.out.mono ?_
          rintro r w1 ⟨rfl, hb1⟩
          have Hb1 := Lib.hid (Hb.out.trans (hb1.mono Hb.out.size))
          clear hb1
          have d3 : w1.cell? ⟨w.heap.size, 3, none⟩ = some (.slice (some ⟨g, o, none⟩) l.length cap) := (Hn.out.1.below Hb1.out).cell 3
          have e3 : w1.cell? ⟨g, o + j * 4, none⟩ = some (.string s0) := cell_below Hc0.out Hb1.out
          go_wp2_with fail
          go_ret
          rw [Hfin.out]
          exact ⟨rfl, Hn.out.2.trans (Hb1.out.mono Hn.out.2.size)⟩
        · have hnx : allOk kChoice 112 (l.take (j + 1)) = true := (hst.1 Hok.out).2 ⟨hs, hk⟩
          have Hnx := Lib.hid hnx
          have q1 : ((⟨e'.kind.toArray⟩ : ByteArray).toList == [99, 104, 111, 105, 99, 101]) = false := by rw [ByteArray.toList_eq, beq_eq_false_iff_ne]; simpa [kChoice] using hk
          have q2 : ((⟨e'.kind.toArray⟩ : ByteArray).toList != [99, 104, 111, 105, 99, 101]) = true := by rw [bne, q1]; rfl
          generalize (⟨e'.kind.toArray⟩ : ByteArray) = s0 at Hc0 q1 q2
          clear hnx hst hs he' hk
          go_wp2_with fail
          refine Hc.out.mono ?_
          rintro r w1 ⟨rfl, hb1⟩
          have Hb1 := Lib.hid (Hb.out.trans (hb1.mono Hb.out.size))
          clear hb1
          have d3 : w1.cell? ⟨w.heap.size, 3, none⟩ = some (.slice (some ⟨g, o, none⟩) l.length cap) := (Hn.out.1.below Hb1.out).cell 3
          have e3 : w1.cell? ⟨g, o + j * 4, none⟩ = some (.string s0) := cell_below Hc0.out Hb1.out
          go_wp2_with fail
          refine ⟨⟨j + 1, hlt, by go_num, Hnx.out, Hb1.out⟩, ?_⟩
          simp [intOf]
          omega
    · have ej : j = l.length := by omega
      subst ej
      rw [List.take_length] at hok
      have Hok := Lib.hid hok
      have d3 : wr.cell? ⟨w.heap.size, 3, none⟩ = some (.slice a l.length cap) := (Hn.out.1.below hb).cell 3
      have Hb := Lib.hid hb
      clear hb hok hb0
      go_wp2_with fail
      all_goals (go_ret; rw [Hok.out]; exact ⟨rfl, Hn.out.2.trans (Hb.out.mono Hn.out.2.size)⟩)

set_option maxHeartbeats 4000000 in
set_option maxRecDepth 100000 in
theorem sChoice_p2 (w : World) (cap : Nat) (a : Option Addr) (l : List PE) (_hl : l.length ≤ 1048576) (_hcap : l.length ≤ cap) (hp : PEsAt w a 0 l) (z : Int) (_h3 : (z == 0) = false) (s1 : ByteArray) (_hs1 : s1.size ≤ 1) (Hi : ∀ (i : Nat) (d : UInt8) (W : World), Below (w.alloc (.cells #[.string ⟨#[99, 104, 111, 105, 99, 101]⟩, .string ⟨#[]⟩, .int .i64 z, .slice a l.length cap] 24)).heap.size (w.alloc (.cells #[.string ⟨#[99, 104, 111, 105, 99, 101]⟩, .string ⟨#[]⟩, .int .i64 z, .slice a l.length cap] 24)) W → i ≤ 16777216 → Calls Tryz.prog 10 #[.int .i64 (i : Int), .string ⟨#[d]⟩, .pointer (some ⟨w.heap.size, 0, none⟩)] W (Tru (partB l i d) W)) :
    Calls Tryz.prog 6 #[.agg #[.string ⟨#[99, 104, 111, 105, 99, 101]⟩, .string ⟨#[]⟩, .int .i64 z, .slice a l.length cap], .string s1] w (Tru (allOk kChoice 112 l && false) w) := by
  have hn := atB_new w #[.string ⟨#[99, 104, 111, 105, 99, 101]⟩, .string ⟨#[]⟩, .int .i64 z, .slice a l.length cap] 24
  have hbl := (Below.refl w.heap.size w).alloc (Nat.le_refl _) (.cells #[.string ⟨#[99, 104, 111, 105, 99, 101]⟩, .string ⟨#[]⟩, .int .i64 z, .slice a l.length cap] 24)
  have Hn := Lib.hid (And.intro hn hbl)
  have HI := Lib.hid Hi
  have Hp := Lib.hid hp
  have hb0 := Below.refl (w.alloc (.cells #[.string ⟨#[99, 104, 111, 105, 99, 101]⟩, .string ⟨#[]⟩, .int .i64 z, .slice a l.length cap] 24)).heap.size (w.alloc (.cells #[.string ⟨#[99, 104, 111, 105, 99, 101]⟩, .string ⟨#[]⟩, .int .i64 z, .slice a l.length cap] 24))
  clear hn hbl Hi hp
  go_enter Tryz.func6, Tryz.ntmps6
  go_wp2_with fail
  all_goals (go_loopw [128] (fun v wr => ∃ j : Nat, j ≤ l.length ∧ v = .int .i64 j ∧ allOk kChoice 112 (l.take j) = true ∧ Below (w.alloc (.cells #[.string ⟨#[99, 104, 111, 105, 99, 101]⟩, .string ⟨#[]⟩, .int .i64 z, .slice a l.length cap] 24)).heap.size (w.alloc (.cells #[.string ⟨#[99, 104, 111, 105, 99, 101]⟩, .string ⟨#[]⟩, .int .i64 z, .slice a l.length cap] 24)) wr) (fun v _ => l.length - (intOf v).toNat))
  all_goals
    first
    | (case atStart => exact ⟨0, Nat.zero_le _, rfl, rfl, hb0⟩)
    | skip
  all_goals
    obtain ⟨j, hj, rfl, hok, hb⟩ := hrel
    by_cases hlt : j < l.length
    · obtain ⟨e', he'⟩ : ∃ e', l[j]? = some e' := ⟨_, List.getElem?_eq_getElem hlt⟩
      have hst := allOk_step kChoice 112 he'
      obtain ⟨g, o, u, rfl, c0, _, _, _, hu⟩ := PEsAt.at (Hp.out.below Hn.out.2) he'
      rw [Nat.zero_add] at c0
      unfold strV at c0
      have hpb : partB l j 112 = e'.sortB 112 := by rw [partB, he']
      have Hc := Lib.hid (HI.out j 112 wr hb (by omega))
      rw [hpb] at Hc
      have hi0 : (0 : Int) ≤ (j : Int) := by omega
      have hi1 : (j : Int) < (l.length : Int) := by omega
      have Hb := Lib.hid hb
      have Hc0 := Lib.hid c0
      have Hok := Lib.hid hok
      clear hu hb c0 hpb hok hb0
      cases hs : e'.sortB 112 with
      | false =>
        rw [hs] at Hc
        have hfin : allOk kChoice 112 l = false := hst.2 (by rw [hs]; rfl)
        have Hfin := Lib.hid hfin
        clear hfin hst hs he'
        go_wp2_with fail
        refine Hc.out.mono ?_
        rintro r w1 ⟨rfl, hb1⟩
        have Hb1 := Lib.hid (Hb.out.trans (hb1.mono Hb.out.size))
        clear hb1
        go_wp2_with fail
        go_ret
        rw [Hfin.out]
        exact ⟨rfl, Hn.out.2.trans (Hb1.out.mono Hn.out.2.size)⟩
      | true =>
        rw [hs] at Hc
        by_cases hk : e'.kind = kChoice
        · have hfin : allOk kChoice 112 l = false := hst.2 (by rw [hs, hk]; simp)
          have Hfin := Lib.hid hfin
          have q1 : ((⟨e'.kind.toArray⟩ : ByteArray).toList == [99, 104, 111, 105, 99, 101]) = true := by rw [hk, ByteArray.toList_eq]; rfl
          have q2 : ((⟨e'.kind.toArray⟩ : ByteArray).toList != [99, 104, 111, 105, 99, 101]) = false := by rw [bne, q1]; rfl
          generalize (⟨e'.kind.toArray⟩ : ByteArray) = s0 at Hc0 q1 q2
          clear hfin hst hs he' hk
          go_wp2_with fail
          refine Hc.out.mono ?_
          rintro r w1 ⟨rfl, hb1⟩
          have Hb1 := Lib.hid (Hb.out.trans (hb1.mono Hb.out.size))
          clear hb1
          have d3 : w1.cell? ⟨w.heap.size, 3, none⟩ = some (.slice (some ⟨g, o, none⟩) l.length cap) := (Hn.out.1.below Hb1.out).cell 3
          have e3 : w1.cell? ⟨g, o + j * 4, none⟩ = some (.string s0) := cell_below Hc0.out Hb1.out
          go_wp2_with fail
          go_ret
          rw [Hfin.out]
          exact ⟨rfl, Hn.out.2.trans (Hb1.out.mono Hn.out.2.size)⟩
        · have hnx : allOk kChoice 112 (l.take (j + 1)) = true := (hst.1 Hok.out).2 ⟨hs, hk⟩
          have Hnx := Lib.hid hnx
          have q1 : ((⟨e'.kind.toArray⟩ : ByteArray).toList == [99, 104, 111, 105, 99, 101]) = false := by rw [ByteArray.toList_eq, beq_eq_false_iff_ne]; simpa [kChoice] using hk
          have q2 : ((⟨e'.kind.toArray⟩ : ByteArray).toList != [99, 104, 111, 105, 99, 101]) = true := by rw [bne, q1]; rfl
          generalize (⟨e'.kind.toArray⟩ : ByteArray) = s0 at Hc0 q1 q2
          clear hnx hst hs he' hk
          go_wp2_with fail
          refine Hc.out.mono ?_
          rintro r w1 ⟨rfl, hb1⟩
          have Hb1 := Lib.hid (Hb.out.trans (hb1.mono Hb.out.size))
          clear hb1
          have d3 : w1.cell? ⟨w.heap.size, 3, none⟩ = some (.slice (some ⟨g, o, none⟩) l.length cap) := (Hn.out.1.below Hb1.out).cell 3
          have e3 : w1.cell? ⟨g, o + j * 4, none⟩ = some (.string s0) := cell_below Hc0.out Hb1.out
          go_wp2_with fail
          refine ⟨⟨j + 1, hlt, by go_num, Hnx.out, Hb1.out⟩, ?_⟩
          simp [intOf]
          omega
    · have ej : j = l.length := by omega
      subst ej
      rw [List.take_length] at hok
      have Hok := Lib.hid hok
      have d3 : wr.cell? ⟨w.heap.size, 3, none⟩ = some (.slice a l.length cap) := (Hn.out.1.below hb).cell 3
      have Hb := Lib.hid hb
      clear hb hok hb0
      go_wp2_with fail
      all_goals (go_ret; rw [Hok.out]; exact ⟨rfl, Hn.out.2.trans (Hb.out.mono Hn.out.2.size)⟩)

set_option maxHeartbeats 4000000 in
set_option maxRecDepth 100000 in
theorem sChoice_w (w : World) (cap : Nat) (a : Option Addr) (l : List PE) (_hl : l.length ≤ 1048576) (_hcap : l.length ≤ cap) (hp : PEsAt w a 0 l) (s1 : ByteArray) (_hs1 : s1.size ≤ 1) (_p1 : (s1.toList == [112]) = false) (_p2 : (s1.toList != [112]) = true) (Hi : ∀ (i : Nat) (d : UInt8) (W : World), Below (w.alloc (.cells #[.string ⟨#[99, 104, 111, 105, 99, 101]⟩, .string ⟨#[]⟩, .int .i64 0, .slice a l.length cap] 24)).heap.size (w.alloc (.cells #[.string ⟨#[99, 104, 111, 105, 99, 101]⟩, .string ⟨#[]⟩, .int .i64 0, .slice a l.length cap] 24)) W → i ≤ 16777216 → Calls Tryz.prog 10 #[.int .i64 (i : Int), .string ⟨#[d]⟩, .pointer (some ⟨w.heap.size, 0, none⟩)] W (Tru (partB l i d) W)) :
    Calls Tryz.prog 6 #[.agg #[.string ⟨#[99, 104, 111, 105, 99, 101]⟩, .string ⟨#[]⟩, .int .i64 0, .slice a l.length cap], .string s1] w (Tru (allOk kChoice 112 l && false) w) := by
  have hn := atB_new w #[.string ⟨#[99, 104, 111, 105, 99, 101]⟩, .string ⟨#[]⟩, .int .i64 0, .slice a l.length cap] 24
  have hbl := (Below.refl w.heap.size w).alloc (Nat.le_refl _) (.cells #[.string ⟨#[99, 104, 111, 105, 99, 101]⟩, .string ⟨#[]⟩, .int .i64 0, .slice a l.length cap] 24)
  have Hn := Lib.hid (And.intro hn hbl)
  have HI := Lib.hid Hi
  have Hp := Lib.hid hp
  have hb0 := Below.refl (w.alloc (.cells #[.string ⟨#[99, 104, 111, 105, 99, 101]⟩, .string ⟨#[]⟩, .int .i64 0, .slice a l.length cap] 24)).heap.size (w.alloc (.cells #[.string ⟨#[99, 104, 111, 105, 99, 101]⟩, .string ⟨#[]⟩, .int .i64 0, .slice a l.length cap] 24))
  clear hn hbl Hi hp
  go_enter Tryz.func6, Tryz.ntmps6
  go_wp2_with fail
  all_goals (go_loopw [128] (fun v wr => ∃ j : Nat, j ≤ l.length ∧ v = .int .i64 j ∧ allOk kChoice 112 (l.take j) = true ∧ Below (w.alloc (.cells #[.string ⟨#[99, 104, 111, 105, 99, 101]⟩, .string ⟨#[]⟩, .int .i64 0, .slice a l.length cap] 24)).heap.size (w.alloc (.cells #[.string ⟨#[99, 104, 111, 105, 99, 101]⟩, .string ⟨#[]⟩, .int .i64 0, .slice a l.length cap] 24)) wr) (fun v _ => l.length - (intOf v).toNat))
  all_goals
    first
    | (case atStart => exact ⟨0, Nat.zero_le _, rfl, rfl, hb0⟩)
    | skip
  all_goals
    obtain ⟨j, hj, rfl, hok, hb⟩ := hrel
    by_cases hlt : j < l.length
    · obtain ⟨e', he'⟩ : ∃ e', l[j]? = some e' := ⟨_, List.getElem?_eq_getElem hlt⟩
      have hst := allOk_step kChoice 112 he'
      obtain ⟨g, o, u, rfl, c0, _, _, _, hu⟩ := PEsAt.at (Hp.out.below Hn.out.2) he'
      rw [Nat.zero_add] at c0
      unfold strV at c0
      have hpb : partB l j 112 = e'.sortB 112 := by rw [partB, he']
      have Hc := Lib.hid (HI.out j 112 wr hb (by omega))
      rw [hpb] at Hc
      have hi0 : (0 : Int) ≤ (j : Int) := by omega
      have hi1 : (j : Int) < (l.length : Int) := by omega
      have Hb := Lib.hid hb
      have Hc0 := Lib.hid c0
      have Hok := Lib.hid hok
      clear hu hb c0 hpb hok hb0
      cases hs : e'.sortB 112 with
      | false =>
        rw [hs] at Hc
        have hfin : allOk kChoice 112 l = false := hst.2 (by rw [hs]; rfl)
        have Hfin := Lib.hid hfin
        clear hfin hst hs he'
        go_wp2_with fail
        refine Hc.out.mono ?_
        rintro r w1 ⟨rfl, hb1⟩
        have Hb1 := Lib.hid (Hb.out.trans (hb1.mono Hb.out.size))
        clear hb1
        go_wp2_with fail
        go_ret
        rw [Hfin.out]
        exact ⟨rfl, Hn.out.2.trans (Hb1.out.mono Hn.out.2.size)⟩
      | true =>
        rw [hs] at Hc
        by_cases hk : e'.kind = kChoice
        · have hfin : allOk kChoice 112 l = false := hst.2 (by rw [hs, hk]; simp)
          have Hfin := Lib.hid hfin
          have q1 : ((⟨e'.kind.toArray⟩ : ByteArray).toList == [99, 104, 111, 105, 99, 101]) = true := by rw [hk, ByteArray.toList_eq]; rfl
          have q2 : ((⟨e'.kind.toArray⟩ : ByteArray).toList != [99, 104, 111, 105, 99, 101]) = false := by rw [bne, q1]; rfl
          generalize (⟨e'.kind.toArray⟩ : ByteArray) = s0 at Hc0 q1 q2
          clear hfin hst hs he' hk
          go_wp2_with fail
          refine Hc.out.mono ?_
          rintro r w1 ⟨rfl, hb1⟩
          have Hb1 := Lib.hid (Hb.out.trans (hb1.mono Hb.out.size))
          clear hb1
          have d3 : w1.cell? ⟨w.heap.size, 3, none⟩ = some (.slice (some ⟨g, o, none⟩) l.length cap) := (Hn.out.1.below Hb1.out).cell 3
          have e3 : w1.cell? ⟨g, o + j * 4, none⟩ = some (.string s0) := cell_below Hc0.out Hb1.out
          go_wp2_with fail
          go_ret
          rw [Hfin.out]
          exact ⟨rfl, Hn.out.2.trans (Hb1.out.mono Hn.out.2.size)⟩
        · have hnx : allOk kChoice 112 (l.take (j + 1)) = true := (hst.1 Hok.out).2 ⟨hs, hk⟩
          have Hnx := Lib.hid hnx
          have q1 : ((⟨e'.kind.toArray⟩ : ByteArray).toList == [99, 104, 111, 105, 99, 101]) = false := by rw [ByteArray.toList_eq, beq_eq_false_iff_ne]; simpa [kChoice] using hk
          have q2 : ((⟨e'.kind.toArray⟩ : ByteArray).toList != [99, 104, 111, 105, 99, 101]) = true := by rw [bne, q1]; rfl
          generalize (⟨e'.kind.toArray⟩ : ByteArray) = s0 at Hc0 q1 q2
          clear hnx hst hs he' hk
          go_wp2_with fail
          refine Hc.out.mono ?_
          rintro r w1 ⟨rfl, hb1⟩
          have Hb1 := Lib.hid (Hb.out.trans (hb1.mono Hb.out.size))
          clear hb1
          have d3 : w1.cell? ⟨w.heap.size, 3, none⟩ = some (.slice (some ⟨g, o, none⟩) l.length cap) := (Hn.out.1.below Hb1.out).cell 3
          have e3 : w1.cell? ⟨g, o + j * 4, none⟩ = some (.string s0) := cell_below Hc0.out Hb1.out
          go_wp2_with fail
          refine ⟨⟨j + 1, hlt, by go_num, Hnx.out, Hb1.out⟩, ?_⟩
          simp [intOf]
          omega
    · have ej : j = l.length := by omega
      subst ej
      rw [List.take_length] at hok
      have Hok := Lib.hid hok
      have d3 : wr.cell? ⟨w.heap.size, 3, none⟩ = some (.slice a l.length cap) := (Hn.out.1.below hb).cell 3
      have Hb := Lib.hid hb
      clear hb hok hb0
      go_wp2_with fail
      all_goals (go_ret; rw [Hok.out]; exact ⟨rfl, Hn.out.2.trans (Hb.out.mono Hn.out.2.size)⟩)

set_option maxHeartbeats 4000000 in
set_option maxRecDepth 100000 in
theorem sChoice_l (w : World) (cap : Nat) (a : Option Addr) (l : List PE) (_hl : l.length ≤ 1048576) (_hcap : l.length ≤ cap) (hp : PEsAt w a 0 l) (_h5 : decide ((1 : Int) < (l.length : Int)) = false) (_h6 : decide (1 < l.length) = false) (Hi : ∀ (i : Nat) (d : UInt8) (W : World), Below (w.alloc (.cells #[.string ⟨#[99, 104, 111, 105, 99, 101]⟩, .string ⟨#[]⟩, .int .i64 0, .slice a l.length cap] 24)).heap.size (w.alloc (.cells #[.string ⟨#[99, 104, 111, 105, 99, 101]⟩, .string ⟨#[]⟩, .int .i64 0, .slice a l.length cap] 24)) W → i ≤ 16777216 → Calls Tryz.prog 10 #[.int .i64 (i : Int), .string ⟨#[d]⟩, .pointer (some ⟨w.heap.size, 0, none⟩)] W (Tru (partB l i d) W)) :
    Calls Tryz.prog 6 #[.agg #[.string ⟨#[99, 104, 111, 105, 99, 101]⟩, .string ⟨#[]⟩, .int .i64 0, .slice a l.length cap], .string ⟨#[112]⟩] w (Tru (allOk kChoice 112 l && false) w) := by
  have hn := atB_new w #[.string ⟨#[99, 104, 111, 105, 99, 101]⟩, .string ⟨#[]⟩, .int .i64 0, .slice a l.length cap] 24
  have hbl := (Below.refl w.heap.size w).alloc (Nat.le_refl _) (.cells #[.string ⟨#[99, 104, 111, 105, 99, 101]⟩, .string ⟨#[]⟩, .int .i64 0, .slice a l.length cap] 24)
  have Hn := Lib.hid (And.intro hn hbl)
  have HI := Lib.hid Hi
  have Hp := Lib.hid hp
  have hb0 := Below.refl (w.alloc (.cells #[.string ⟨#[99, 104, 111, 105, 99, 101]⟩, .string ⟨#[]⟩, .int .i64 0, .slice a l.length cap] 24)).heap.size (w.alloc (.cells #[.string ⟨#[99, 104, 111, 105, 99, 101]⟩, .string ⟨#[]⟩, .int .i64 0, .slice a l.length cap] 24))
  clear hn hbl Hi hp
  go_enter Tryz.func6, Tryz.ntmps6
  go_wp2_with fail
  all_goals (go_loopw [128] (fun v wr => ∃ j : Nat, j ≤ l.length ∧ v = .int .i64 j ∧ allOk kChoice 112 (l.take j) = true ∧ Below (w.alloc (.cells #[.string ⟨#[99, 104, 111, 105, 99, 101]⟩, .string ⟨#[]⟩, .int .i64 0, .slice a l.length cap] 24)).heap.size (w.alloc (.cells #[.string ⟨#[99, 104, 111, 105, 99, 101]⟩, .string ⟨#[]⟩, .int .i64 0, .slice a l.length cap] 24)) wr) (fun v _ => l.length - (intOf v).toNat))
  all_goals
    first
    | (case atStart => exact ⟨0, Nat.zero_le _, rfl, rfl, hb0⟩)
    | skip
  all_goals
    obtain ⟨j, hj, rfl, hok, hb⟩ := hrel
    by_cases hlt : j < l.length
    · obtain ⟨e', he'⟩ : ∃ e', l[j]? = some e' := ⟨_, List.getElem?_eq_getElem hlt⟩
      have hst := allOk_step kChoice 112 he'
      obtain ⟨g, o, u, rfl, c0, _, _, _, hu⟩ := PEsAt.at (Hp.out.below Hn.out.2) he'
      rw [Nat.zero_add] at c0
      unfold strV at c0
      have hpb : partB l j 112 = e'.sortB 112 := by rw [partB, he']
      have Hc := Lib.hid (HI.out j 112 wr hb (by omega))
      rw [hpb] at Hc
      have hi0 : (0 : Int) ≤ (j : Int) := by omega
      have hi1 : (j : Int) < (l.length : Int) := by omega
      have Hb := Lib.hid hb
      have Hc0 := Lib.hid c0
      have Hok := Lib.hid hok
      clear hu hb c0 hpb hok hb0
      cases hs : e'.sortB 112 with
      | false =>
        rw [hs] at Hc
        have hfin : allOk kChoice 112 l = false := hst.2 (by rw [hs]; rfl)
        have Hfin := Lib.hid hfin
        clear hfin hst hs he'
        go_wp2_with fail
        refine Hc.out.mono ?_
        rintro r w1 ⟨rfl, hb1⟩
        have Hb1 := Lib.hid (Hb.out.trans (hb1.mono Hb.out.size))
        clear hb1
        go_wp2_with fail
        go_ret
        rw [Hfin.out]
        exact ⟨rfl, Hn.out.2.trans (Hb1.out.mono Hn.out.2.size)⟩
      | true =>
        rw [hs] at Hc
        by_cases hk : e'.kind = kChoice
        · have hfin : allOk kChoice 112 l = false := hst.2 (by rw [hs, hk]; simp)
          have Hfin := Lib.hid hfin
          have q1 : ((⟨e'.kind.toArray⟩ : ByteArray).toList == [99, 104, 111, 105, 99, 101]) = true := by rw [hk, ByteArray.toList_eq]; rfl
          have q2 : ((⟨e'.kind.toArray⟩ : ByteArray).toList != [99, 104, 111, 105, 99, 101]) = false := by rw [bne, q1]; rfl
          generalize (⟨e'.kind.toArray⟩ : ByteArray) = s0 at Hc0 q1 q2
          clear hfin hst hs he' hk
          go_wp2_with fail
          refine Hc.out.mono ?_
          rintro r w1 ⟨rfl, hb1⟩
          have Hb1 := Lib.hid (Hb.out.trans (hb1.mono Hb.out.size))
          clear hb1
          have d3 : w1.cell? ⟨w.heap.size, 3, none⟩ = some (.slice (some ⟨g, o, none⟩) l.length cap) := (Hn.out.1.below Hb1.out).cell 3
          have e3 : w1.cell? ⟨g, o + j * 4, none⟩ = some (.string s0) := cell_below Hc0.out Hb1.out
          go_wp2_with fail
          go_ret
          rw [Hfin.out]
          exact ⟨rfl, Hn.out.2.trans (Hb1.out.mono Hn.out.2.size)⟩
        · have hnx : allOk kChoice 112 (l.take (j + 1)) = true := (hst.1 Hok.out).2 ⟨hs, hk⟩
          have Hnx := Lib.hid hnx
          have q1 : ((⟨e'.kind.toArray⟩ : ByteArray).toList == [99, 104, 111, 105, 99, 101]) = false := by rw [ByteArray.toList_eq, beq_eq_false_iff_ne]; simpa [kChoice] using hk
          have q2 : ((⟨e'.kind.toArray⟩ : ByteArray).toList != [99, 104, 111, 105, 99, 101]) = true := by rw [bne, q1]; rfl
          generalize (⟨e'.kind.toArray⟩ : ByteArray) = s0 at Hc0 q1 q2
          clear hnx hst hs he' hk
          go_wp2_with fail
          refine Hc.out.mono ?_
          rintro r w1 ⟨rfl, hb1⟩
          have Hb1 := Lib.hid (Hb.out.trans (hb1.mono Hb.out.size))
          clear hb1
          have d3 : w1.cell? ⟨w.heap.size, 3, none⟩ = some (.slice (some ⟨g, o, none⟩) l.length cap) := (Hn.out.1.below Hb1.out).cell 3
          have e3 : w1.cell? ⟨g, o + j * 4, none⟩ = some (.string s0) := cell_below Hc0.out Hb1.out
          go_wp2_with fail
          refine ⟨⟨j + 1, hlt, by go_num, Hnx.out, Hb1.out⟩, ?_⟩
          simp [intOf]
          omega
    · have ej : j = l.length := by omega
      subst ej
      rw [List.take_length] at hok
      have Hok := Lib.hid hok
      have d3 : wr.cell? ⟨w.heap.size, 3, none⟩ = some (.slice a l.length cap) := (Hn.out.1.below hb).cell 3
      have Hb := Lib.hid hb
      clear hb hok hb0
      go_wp2_with fail
      all_goals (go_ret; rw [Hok.out]; exact ⟨rfl, Hn.out.2.trans (Hb.out.mono Hn.out.2.size)⟩)

set_option maxHeartbeats 4000000 in
set_option maxRecDepth 100000 in
theorem sChoice_y (w : World) (cap : Nat) (a : Option Addr) (l : List PE) (_hl : l.length ≤ 1048576) (_hcap : l.length ≤ cap) (hp : PEsAt w a 0 l) (_h5 : (1 : Int) < (l.length : Int)) (_h6 : 1 < l.length) (Hi : ∀ (i : Nat) (d : UInt8) (W : World), Below (w.alloc (.cells #[.string ⟨#[99, 104, 111, 105, 99, 101]⟩, .string ⟨#[]⟩, .int .i64 0, .slice a l.length cap] 24)).heap.size (w.alloc (.cells #[.string ⟨#[99, 104, 111, 105, 99, 101]⟩, .string ⟨#[]⟩, .int .i64 0, .slice a l.length cap] 24)) W → i ≤ 16777216 → Calls Tryz.prog 10 #[.int .i64 (i : Int), .string ⟨#[d]⟩, .pointer (some ⟨w.heap.size, 0, none⟩)] W (Tru (partB l i d) W)) :
    Calls Tryz.prog 6 #[.agg #[.string ⟨#[99, 104, 111, 105, 99, 101]⟩, .string ⟨#[]⟩, .int .i64 0, .slice a l.length cap], .string ⟨#[112]⟩] w (Tru (allOk kChoice 112 l && true) w) := by
  have hn := atB_new w #[.string ⟨#[99, 104, 111, 105, 99, 101]⟩, .string ⟨#[]⟩, .int .i64 0, .slice a l.length cap] 24
  have hbl := (Below.refl w.heap.size w).alloc (Nat.le_refl _) (.cells #[.string ⟨#[99, 104, 111, 105, 99, 101]⟩, .string ⟨#[]⟩, .int .i64 0, .slice a l.length cap] 24)
  have Hn := Lib.hid (And.intro hn hbl)
  have HI := Lib.hid Hi
  have Hp := Lib.hid hp
  have hb0 := Below.refl (w.alloc (.cells #[.string ⟨#[99, 104, 111, 105, 99, 101]⟩, .string ⟨#[]⟩, .int .i64 0, .slice a l.length cap] 24)).heap.size (w.alloc (.cells #[.string ⟨#[99, 104, 111, 105, 99, 101]⟩, .string ⟨#[]⟩, .int .i64 0, .slice a l.length cap] 24))
  clear hn hbl Hi hp
  go_enter Tryz.func6, Tryz.ntmps6
  go_wp2_with fail
  all_goals (go_loopw [128] (fun v wr => ∃ j : Nat, j ≤ l.length ∧ v = .int .i64 j ∧ allOk kChoice 112 (l.take j) = true ∧ Below (w.alloc (.cells #[.string ⟨#[99, 104, 111, 105, 99, 101]⟩, .string ⟨#[]⟩, .int .i64 0, .slice a l.length cap] 24)).heap.size (w.alloc (.cells #[.string ⟨#[99, 104, 111, 105, 99, 101]⟩, .string ⟨#[]⟩, .int .i64 0, .slice a l.length cap] 24)) wr) (fun v _ => l.length - (intOf v).toNat))
  all_goals
    first
    | (case atStart => exact ⟨0, Nat.zero_le _, rfl, rfl, hb0⟩)
    | skip
  all_goals
    obtain ⟨j, hj, rfl, hok, hb⟩ := hrel
    by_cases hlt : j < l.length
    · obtain ⟨e', he'⟩ : ∃ e', l[j]? = some e' := ⟨_, List.getElem?_eq_getElem hlt⟩
      have hst := allOk_step kChoice 112 he'
      obtain ⟨g, o, u, rfl, c0, _, _, _, hu⟩ := PEsAt.at (Hp.out.below Hn.out.2) he'
      rw [Nat.zero_add] at c0
      unfold strV at c0
      have hpb : partB l j 112 = e'.sortB 112 := by rw [partB, he']
      have Hc := Lib.hid (HI.out j 112 wr hb (by omega))
      rw [hpb] at Hc
      have hi0 : (0 : Int) ≤ (j : Int) := by omega
      have hi1 : (j : Int) < (l.length : Int) := by omega
      have Hb := Lib.hid hb
      have Hc0 := Lib.hid c0
      have Hok := Lib.hid hok
      clear hu hb c0 hpb hok hb0
      cases hs : e'.sortB 112 with
      | false =>
        rw [hs] at Hc
        have hfin : allOk kChoice 112 l = false := hst.2 (by rw [hs]; rfl)
        have Hfin := Lib.hid hfin
        clear hfin hst hs he'
        go_wp2_with fail
        refine Hc.out.mono ?_
        rintro r w1 ⟨rfl, hb1⟩
        have Hb1 := Lib.hid (Hb.out.trans (hb1.mono Hb.out.size))
        clear hb1
        go_wp2_with fail
        go_ret
        rw [Hfin.out]
        exact ⟨rfl, Hn.out.2.trans (Hb1.out.mono Hn.out.2.size)⟩
      | true =>
        rw [hs] at Hc
        by_cases hk : e'.kind = kChoice
        · have hfin : allOk kChoice 112 l = false := hst.2 (by rw [hs, hk]; simp)
          have Hfin := Lib.hid hfin
          have q1 : ((⟨e'.kind.toArray⟩ : ByteArray).toList == [99, 104, 111, 105, 99, 101]) = true := by rw [hk, ByteArray.toList_eq]; rfl
          have q2 : ((⟨e'.kind.toArray⟩ : ByteArray).toList != [99, 104, 111, 105, 99, 101]) = false := by rw [bne, q1]; rfl
          generalize (⟨e'.kind.toArray⟩ : ByteArray) = s0 at Hc0 q1 q2
          clear hfin hst hs he' hk
          go_wp2_with fail
          refine Hc.out.mono ?_
          rintro r w1 ⟨rfl, hb1⟩
          have Hb1 := Lib.hid (Hb.out.trans (hb1.mono Hb.out.size))
          clear hb1
          have d3 : w1.cell? ⟨w.heap.size, 3, none⟩ = some (.slice (some ⟨g, o, none⟩) l.length cap) := (Hn.out.1.below Hb1.out).cell 3
          have e3 : w1.cell? ⟨g, o + j * 4, none⟩ = some (.string s0) := cell_below Hc0.out Hb1.out
          go_wp2_with fail
          go_ret
          rw [Hfin.out]
          exact ⟨rfl, Hn.out.2.trans (Hb1.out.mono Hn.out.2.size)⟩
        · have hnx : allOk kChoice 112 (l.take (j + 1)) = true := (hst.1 Hok.out).2 ⟨hs, hk⟩
          have Hnx := Lib.hid hnx
          have q1 : ((⟨e'.kind.toArray⟩ : ByteArray).toList == [99, 104, 111, 105, 99, 101]) = false := by rw [ByteArray.toList_eq, beq_eq_false_iff_ne]; simpa [kChoice] using hk
          have q2 : ((⟨e'.kind.toArray⟩ : ByteArray).toList != [99, 104, 111, 105, 99, 101]) = true := by rw [bne, q1]; rfl
          generalize (⟨e'.kind.toArray⟩ : ByteArray) = s0 at Hc0 q1 q2
          clear hnx hst hs he' hk
          go_wp2_with fail
          refine Hc.out.mono ?_
          rintro r w1 ⟨rfl, hb1⟩
          have Hb1 := Lib.hid (Hb.out.trans (hb1.mono Hb.out.size))
          clear hb1
          have d3 : w1.cell? ⟨w.heap.size, 3, none⟩ = some (.slice (some ⟨g, o, none⟩) l.length cap) := (Hn.out.1.below Hb1.out).cell 3
          have e3 : w1.cell? ⟨g, o + j * 4, none⟩ = some (.string s0) := cell_below Hc0.out Hb1.out
          go_wp2_with fail
          refine ⟨⟨j + 1, hlt, by go_num, Hnx.out, Hb1.out⟩, ?_⟩
          simp [intOf]
          omega
    · have ej : j = l.length := by omega
      subst ej
      rw [List.take_length] at hok
      have Hok := Lib.hid hok
      have d3 : wr.cell? ⟨w.heap.size, 3, none⟩ = some (.slice a l.length cap) := (Hn.out.1.below hb).cell 3
      have Hb := Lib.hid hb
      clear hb hok hb0
      go_wp2_with fail
      all_goals (go_ret; rw [Hok.out]; exact ⟨rfl, Hn.out.2.trans (Hb.out.mono Hn.out.2.size)⟩)
end Go.Proofs.YthpianlilipggaaGreatDoor
