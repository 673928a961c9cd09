/- What package token writes between two backquotes: each byte as it is, escaped, or in two digits. Condition: the text is at most 2^38 bytes long, each below 128; both tables hold what they were laid with. -/
import Derived.Test.YtkhjenlclpcehaaDoorIi
import Derived.Test.YtkhjenlclpcehaaDoorPq
import Derived.Test.YtkhjenlclpcehaaDoorIg
import Derived.Test.YtkhjenlclpcehaaDoorSh
import Derived.Lib.BufferOld
import Derived.Lib.AppendIntMem
namespace Go.Proofs.YtkhjenlclpcehaaDoor
open Go.RowKit Go.PlainAid

theorem escQ_out : ∀ n : Nat, n < 128 → (escQ (n : Int)).size ≠ 0 → (escQ (n : Int)).data.toList = outQ (UInt8.ofNat n) := by decide +kernel
theorem outQ_plain : ∀ n : Nat, n < 128 → (escQ (n : Int)).size = 0 → decide (32 ≤ n ∧ n ≤ 126) = true → outQ (UInt8.ofNat n) = [UInt8.ofNat n] := by decide +kernel
theorem outQ_hex : ∀ n : Nat, n < 128 → (escQ (n : Int)).size = 0 → decide (32 ≤ n ∧ n ≤ 126) = false → outQ (UInt8.ofNat n) = [92, 120] ++ hex2 n := by decide +kernel

theorem flat_take (L : List UInt8) (k : Nat) (h : k < L.length) : (L.take (k + 1)).flatMap outQ = (L.take k).flatMap outQ ++ outQ (L[k]'h) := by
  rw [List.take_succ_eq_append_getElem h, List.flatMap_append]; simp
theorem flat_le (L : List UInt8) (k : Nat) : ((L.take k).flatMap outQ).length ≤ 4 * k := by
  have h := (outQ_all (L.take k)).2
  have h2 := List.length_take_le k L
  omega
theorem ba_nil {q : ByteArray} (h : q.size = 0) : q = ⟨#[]⟩ := by
  cases q with | mk d => cases d with | mk l => cases l with
    | nil => rfl
    | cons a l => simp [ByteArray.size] at h
theorem ba_some {q : ByteArray} (h : ¬ q.size = 0) : q.toList.isEmpty = false := by
  rw [ByteArray.toList_eq]
  have e := sizeL q
  cases hq : q.data.toList with
  | nil => rw [hq] at e; exact absurd e h
  | cons a l => rfl
/-- What holds between two rounds. -/
def CInv (s : ByteArray) (L : List UInt8) (B b : Nat) (acc : List UInt8) (w wr : World) (pos : Nat) : Prop :=
  pos ≤ s.size ∧ Lib.IsBuffer 42 5 B b (Lib.byteCells (acc ++ (L.take pos).flatMap outQ)) wr ∧ wr.heap[w.heap.size]? = some (.stringIter s pos) ∧ Below B w wr

theorem CInv.step {s : ByteArray} {L : List UInt8} {B b : Nat} {acc : List UInt8} {w w3 : World} {pos : Nat} {x : UInt8} {d : List UInt8} (hlt : pos < s.size) (htk : (L.take (pos + 1)).flatMap outQ = (L.take pos).flatMap outQ ++ outQ x) (hd : outQ x = d)
    (hI : Lib.IsBuffer 42 5 B b (Lib.byteCells (acc ++ (L.take pos).flatMap outQ) ++ Lib.byteCells d) w3) (hit : w3.heap[w.heap.size]? = some (.stringIter s (pos + 1))) (hb : Below B w w3) :
    (∃ pos, CInv s L B b acc w w3 pos) ∧ s.size - w3.iterPos w.heap.size < s.size - pos := by
  refine ⟨⟨pos + 1, hlt, ?_, hit, hb⟩, ?_⟩
  · rw [htk, hd, ← List.append_assoc, Lib.byteCells_append (acc ++ (L.take pos).flatMap outQ)]
    exact hI
  · simp only [World.iterPos, hit]
    omega

set_option maxHeartbeats 4000000 in
set_option maxRecDepth 100000 in
theorem content_c (s : ByteArray) (B b : Nat) (acc : List UInt8) (w : World) (hs : s.size ≤ 274877906944) (ha : ∀ c ∈ s.data.toList, c.toNat < 128) (hacc : acc.length ≤ 274877906944)
    (hI : Lib.IsBuffer 42 5 B b (Lib.byteCells acc) w) (hB : B ≤ w.heap.size)
    (hp : Lib.TabBelow Tryd.prog B w "unicode.properties" .u8 Lib.propertiesTab) (ht : Lib.TabBelow Tryd.prog B w "math/bits.deBruijn64tab" .u8 tab64) :
    Calls Tryd.prog 20 #[.string s, .int .i32 96, .pointer (some ⟨b, 0, none⟩)] w fun e w' =>
      e = .returned (.tuple #[]) ∧ Lib.IsBuffer 42 5 B b (Lib.byteCells (acc ++ s.data.toList.flatMap outQ)) w' ∧ Below B w w' := by
  obtain ⟨L, hL⟩ : ∃ L, s.data.toList = L := ⟨_, rfl⟩
  have hLs : Hid (L.length = s.size) := by show _ = _; rw [← hL]; exact Array.length_toList
  have hby : Hid (∀ k (h : k < L.length) (h2 : k < s.size), s[k]'h2 = L[k]'h) := by
    intro k h h2
    subst hL
    rfl
  have ha2 : Hid (∀ c ∈ L, c.toNat < 128) := by rw [← hL]; exact ha
  rw [hL]
  clear hL ha
  have hp := Lib.hid hp
  have ht := Lib.hid ht
  go_enter Tryd.func20, Tryd.ntmps20
  go_wp2_with fail
  go_loopw [7] (fun _ wr => ∃ pos, CInv s L B b acc w wr pos) (fun _ wr => s.size - wr.iterPos w.heap.size)
  case atStart => 
    refine ⟨0, Nat.zero_le _, ?_, World.iter_heap w s 0, ?_⟩
    · rw [List.take_zero, List.flatMap_nil, List.append_nil]
      exact hI.alloc _
    · exact (Below.refl _ w).alloc hB _
  case round =>
    obtain ⟨pos, hpos, hIr, hit, hbw⟩ := hrel
    have hBr : B ≤ wr.heap.size := Nat.le_trans hB hbw.size
    by_cases hlt : pos < s.size
    · have hkl : pos < L.length := by rw [hLs.out]; exact hlt
      have hx := hby.out pos hkl hlt
      have hxa := ha2.out _ (List.getElem_mem hkl)
      rw [← hx] at hxa
      have htk := flat_take L pos hkl
      rw [← hx] at htk
      have hfl := flat_le L pos
      have hnx := fun ty => Lib.run_next_ascii_at (P := Tryd.prog) wr w.heap.size s pos ty hit hlt hxa
      obtain ⟨x, hxe⟩ : ∃ x, s[pos]'hlt = x := ⟨_, rfl⟩
      rw [hxe] at hxa htk hnx
      have hxn : UInt8.ofNat x.toNat = x := by simp
      obtain ⟨n, hn⟩ : ∃ n, x.toNat = n := ⟨_, rfl⟩
      rw [hn] at hxa hnx hxn
      have hI2 := hIr.iterAt hit (pos + 1)
      have hit2 := Lib.iterAt_heap wr w.heap.size s pos (pos + 1) hit
      have hbw2 := Lib.below_iterAt hbw (k := w.heap.size) hB s (pos + 1)
      have hB2 : B ≤ (wr.iterAt w.heap.size s (pos + 1)).heap.size := by rw [Lib.iterAt_size]; exact hBr
      obtain ⟨w2, hw2⟩ : ∃ w2, wr.iterAt w.heap.size s (pos + 1) = w2 := ⟨_, rfl⟩
      rw [hw2] at hI2 hit2 hbw2 hB2 hnx
      have hkb := hI2.ne_iter hit2
      clear hx hxe
      go_wp2_with fail
      refine (escape96_c n w2 (by omega) (by omega)).mono ?_
      rintro e w' ⟨rfl, rfl⟩
      have hmeas : wr.iterPos w.heap.size = pos := by simp only [World.iterPos, hit]
      by_cases hq : (escQ n).size = 0
      · have hqe := ba_nil hq
        have hpr := IsPrint_c n w2 hxa (hp.out w2 hbw2)
        rw [hqe]
        go_wp2_with fail
        refine hpr.mono ?_
        rintro e w' ⟨rfl, rfl⟩
        by_cases hpr2 : 32 ≤ n ∧ n ≤ 126
        · have hd := outQ_plain n hxa hq (decide_eq_true hpr2)
          rw [hxn] at hd
          have hwr := Tryd.Buffer_WriteRune_ascii B b _ (n : Int) (by omega) (by omega) w' hI2 hB2 (Lib.byteCells_one _) (by rw [Lib.byteCells_length, List.length_append]; omega)
          rw [decide_eq_true hpr2]
          go_wp2_with fail
          refine hwr.mono ?_
          rintro e w3 ⟨rfl, hI3, hb3, hk3⟩
          go_wp2_with fail
          rw [hmeas]
          refine CInv.step hlt htk hd ?_ (hk3.iter hit2 hkb) (hbw2.trans hb3)
          show Lib.IsBuffer _ _ _ _ (_ ++ [Value.int .u8 ((x.toNat : Nat) : Int)]) _
          rw [hn]
          exact hI3
        · have hd := outQ_hex n hxa hq (decide_eq_false hpr2)
          rw [hxn] at hd
          have hzz := zzHex_c n w' hxa (ht.out w' hbw2)
          rw [decide_eq_false hpr2]
          go_wp2_with fail
          refine hzz.mono ?_
          rintro e w3 ⟨rfl, hb3⟩
          have hI3 := hI2.old hb3
          have hit3 : w3.heap[w.heap.size]? = some (.stringIter s (pos + 1)) := by
            rw [hb3.block _ (Array.getElem?_eq_some_iff.1 hit2).1]; exact hit2
          have hbw3 : Below B w w3 := hbw2.trans (Joins.below_le hb3 hB2)
          have hB3 : B ≤ w3.heap.size := Nat.le_trans hB2 hb3.size
          have hcat : (ByteArray.mk #[92, 120] ++ ByteArray.mk (hex2 n).toArray).data.toList = [92, 120] ++ hex2 n := rfl
          obtain ⟨T, hT⟩ : ∃ T, ByteArray.mk #[92, 120] ++ ByteArray.mk (hex2 n).toArray = T := ⟨_, rfl⟩
          rw [hT] at hcat
          have hws := Tryd.Buffer_WriteString_k B b _ T w3 hI3 hB3 (Lib.byteCells_one _) (by rw [Lib.byteCells_length, List.length_append, sizeL, hcat]; show _ + 4 ≤ _; omega)
          go_wp2_with fail
          refine hws.mono ?_
          rintro e w4 ⟨rfl, hI4, hb4, hk4⟩
          go_wp2_with fail
          rw [hmeas]
          exact CInv.step hlt htk hd (by rw [← hcat]; exact hI4) (hk4.iter hit3 hkb) (hbw3.trans hb4)
      · have hne := ba_some hq
        have hd := escQ_out n hxa hq
        rw [hxn] at hd
        have hws := Tryd.Buffer_WriteString_k B b _ (escQ n) w2 hI2 hB2 (Lib.byteCells_one _) (by rw [Lib.byteCells_length, List.length_append, sizeL, hd]; have := (outQ_len x).2; omega)
        go_wp2_with fail
        refine hws.mono ?_
        rintro e w3 ⟨rfl, hI3, hb3, hk3⟩
        go_wp2_with fail
        rw [hmeas]
        exact CInv.step hlt htk rfl (by rw [← hd]; exact hI3) (hk3.iter hit2 hkb) (hbw2.trans hb3)
    · have hnx := fun ty => Lib.run_next_end_at (P := Tryd.prog) wr w.heap.size s pos ty hit hlt
      go_wp2_with fail
      go_end0
      have e : L.take pos = L := List.take_of_length_le (by rw [hLs.out]; omega)
      rw [e] at hIr
      exact ⟨rfl, hIr, hbw⟩
end Go.Proofs.YtkhjenlclpcehaaDoor
