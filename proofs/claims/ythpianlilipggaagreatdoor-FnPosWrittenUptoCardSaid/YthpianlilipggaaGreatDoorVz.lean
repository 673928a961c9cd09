/- The law's test of sorts: the closure that asks a part's sort. Condition: at most 2^24 parts. -/
import Derived.Test.YthpianlilipggaaGreatDoorVy
namespace Go.Proofs.YthpianlilipggaaGreatDoor
open Go.RowKit Go.PlainAid

/-- The sort of the i-th part. -/
def partB (l : List PE) (i : Nat) (c : UInt8) : Bool := match l[i]? with
  | some e => e.sortB c
  | none => false
theorem partB_nth (l : List PE) (i : Nat) (c : UInt8) : nth (PE.sortL l c) false i = partB l i c := by
  rw [sortL_eq, nth, partB, List.getD_eq_getElem?_getD, List.getElem?_map]
  cases l[i]? <;> rfl
/-- A truth is returned; memory is made only. -/
def Tru (b : Bool) (w : World) (r : Ending) (w' : World) : Prop := r = .returned (.bool b) ∧ Below w.heap.size w w'
/-- What the test says of smaller trees. -/
def SortIH (m : Nat) : Prop := ∀ (e : PE) (v : Value) (c : UInt8) (w : World), e.size ≤ m → (∀ x, (e = x → x.size ≤ m) → True) → PE.wt e ≤ 1048576 → PEAt w e v → Calls Tryz.prog 6 #[peVal e v, .string ⟨#[c]⟩] w (Tru (e.sortB c) w)
set_option maxHeartbeats 2000000 in
theorem is_c (m : Nat) (hIH : SortIH m) (n i : Nat) (c : UInt8) (k nm : Bs) (z : Int) (l : List PE) (a : Option Addr) (cap : Nat) (w : World) (hm : PE.sizeL l ≤ m) (hw : PE.wtL l ≤ 1048576) (hi : i ≤ 16777216)
    (hat : AtB w n 24 #[.string ⟨k.toArray⟩, .string ⟨nm.toArray⟩, .int .i64 z, .slice a l.length cap]) (hp : PEsAt w a 0 l) :
    Calls Tryz.prog 10 #[.int .i64 (i : Int), .string ⟨#[c]⟩, .pointer (some ⟨n, 0, none⟩)] w (Tru (partB l i c) w) := by
  have d3 : w.cell? ⟨n, 3, none⟩ = some (.slice a l.length cap) := hat.cell 3
  have hll := len_le_size l
  have hlw := sizeL_le_wt l
  by_cases hlt : i < l.length
  · obtain ⟨e, he⟩ : ∃ e, l[i]? = some e := ⟨_, List.getElem?_eq_getElem hlt⟩
    have hb : partB l i c = e.sortB c := by rw [partB, he]
    rw [hb]
    obtain ⟨g, o, u, rfl, c0, c1, c2, c3, hu⟩ := PEsAt.at hp he
    rw [Nat.zero_add] at c0 c1 c2 c3
    unfold strV at c0 c1
    have hmem : e ∈ l := List.mem_of_getElem? he
    have hs := sizeL_mem hmem
    have hwm : e.wt ≤ PE.wtL l := wtL_mem hmem
    have Hc := Lib.hid (hIH e u c w (by omega) (fun _ _ => trivial) (by omega) hu)
    have hi0 : (0 : Int) ≤ (i : Int) := by omega
    have hi1 : (i : Int) < (l.length : Int) := by omega
    clear hat hp he hb hmem hs hwm hu hIH
    unfold peVal strV at Hc
    go_enter Tryz.func10, Tryz.ntmps10
    go_wp2_with fail
    refine Hc.out.mono ?_
    rintro r w1 ⟨rfl, hb1⟩
    have Hb1 := Lib.hid hb1
    clear hb1
    go_wp2_with fail
    go_ret
    exact ⟨rfl, Hb1.out⟩
  · have hb : partB l i c = false := by rw [partB, List.getElem?_eq_none (by omega)]
    rw [hb]
    have hi1 : ¬ (i : Int) < (l.length : Int) := by omega
    have hi2 : decide (i < l.length) = false := decide_eq_false hlt
    clear hat hp hIH hb
    go_enter Tryz.func10, Tryz.ntmps10
    go_wp2_with fail
    go_ret
    exact ⟨rfl, Below.refl _ _⟩
end Go.Proofs.YthpianlilipggaaGreatDoor
