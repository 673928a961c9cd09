/- The law on what is written of a position. Condition: the tree weighs at most 2^20; the tables of letters and of powers hold what they were laid with. -/
import Derived.Test.YthpianlilipggaaGreatDoorXn
import Derived.Test.YthpianlilipggaaGreatDoorXg
namespace Go.Proofs.YthpianlilipggaaGreatDoor
open Go.RowKit Go.PlainAid

theorem ext_mk (l : Bs) (j : Nat) (c : UInt8) (h : l[j]? = some c) : (⟨l.toArray⟩ : ByteArray).extract j (j + 1) = ⟨[c].toArray⟩ := by
  obtain ⟨hlt, he⟩ := List.getElem?_eq_some_iff.1 h
  apply ByteArray.ext
  simp only [ByteArray.data_extract]
  apply Array.ext'
  rw [Array.toList_extract]
  simp only [List.extract_eq_take_drop]
  rw [show j + 1 - j = 1 by omega, List.drop_eq_getElem_cons hlt, he]
  simp
theorem add_zero (q j : Nat) : (⟨q, 0, none⟩ : Addr).add j = ⟨q, j, none⟩ := by unfold Addr.add; split <;> simp_all
theorem flat_take_le (l : List Bs) (j : Nat) : (l.take j).flatten.length ≤ l.flatten.length := by
  have : l.flatten = (l.take j).flatten ++ (l.drop j).flatten := by rw [← List.flatten_append, List.take_append_drop]
  rw [this, List.length_append]
  omega
theorem flat_part_le {l : List Bs} {t : Bs} (h : t ∈ l) : t.length ≤ l.flatten.length := by
  obtain ⟨a, b, rfl⟩ := List.append_of_mem h
  simp only [List.flatten_append, List.flatten_cons, List.length_append]
  omega
theorem flat_take_succ {l : List Bs} {j : Nat} {t : Bs} (h : l[j]? = some t) : (l.take (j + 1)).flatten = (l.take j).flatten ++ t := by
  obtain ⟨hlt, he⟩ := List.getElem?_eq_some_iff.1 h
  rw [List.take_succ_eq_append_getElem hlt, he, List.flatten_append]
  simp
theorem unb_take_succ {l : Bs} {j : Nat} {c : UInt8} (h : l[j]? = some c) : unb (l.take (j + 1)) = unb (l.take j) ++ (if c = 32 then [] else [c]) := by
  obtain ⟨hlt, he⟩ := List.getElem?_eq_some_iff.1 h
  rw [List.take_succ_eq_append_getElem hlt, he, unb_app]
  congr 1
  by_cases hc : c = 32
  · subst hc; rfl
  · simp [unb, hc]

set_option maxHeartbeats 4000000 in
set_option maxRecDepth 100000 in
theorem posWritten_c (e : PE) (v : Value) (w : World) (hw : e.wt ≤ 1048576) (h : PEAt w e v) (hT : Tabs w) :
    Calls Tryz.prog 3 #[peVal e v] w fun r w' => r = .returned (.bool true) ∧ Below w.heap.size w w' := by
  have hH := h
  have hsw := size_le_wt e
  obtain ⟨k, nm, n, l⟩ := e
  obtain ⟨a, cap, rfl, hcap, hp⟩ := h
  have hwt := hw
  rw [PE.wt] at hwt
  have hll := Nat.le_trans (len_le_size l) (sizeL_le_wt l)
  have Hf := Lib.hid (fun (W : World) (hb : Below w.heap.size w W) => fits_c (.mk k nm n l) (.slice a l.length cap) W (show k.length ≤ 16777216 by omega) (show nm.length ≤ 16777216 by omega) (show l.length ≤ 16777216 by omega) (hH.below hb))
  have Hs := Lib.hid (fun (W : World) (hb : Below w.heap.size w W) => posSize_c _ (.mk k nm n l) (.slice a l.length cap) W (Nat.le_refl _) (by omega) (hH.below hb))
  have Ho := Lib.hid (fun (W : World) (hb : Below w.heap.size w W) => posSort_all _ (.mk k nm n l) (.slice a l.length cap) 112 W (Nat.le_refl _) (fun _ _ => trivial) hw (hH.below hb))
  have Hr := Lib.hid (fun (W : World) (hb : Below w.heap.size w W) => readsPos_c W (hT.below hb))
  have HT := Lib.hid hT
  have HH := Lib.hid hH
  have HB0 := Lib.hid (Below.refl (w.heap.size + 1) (w.alloc (.cells #[.string ⟨k.toArray⟩, .string ⟨nm.toArray⟩, .int .i64 n, .slice a l.length cap] 24)))
  have Hw := Lib.hid hw
  obtain ⟨z, hz⟩ : ∃ z : Nat, (PE.mk k nm n l).size = z := ⟨_, rfl⟩
  have hz1 : (z : Int) ≤ 1048576 := by omega
  have hz0 : (0 : Int) ≤ (z : Int) := by omega
  rw [hz] at Hs
  unfold peVal strV PE.kind PE.name PE.num at Hf Hs Ho
  unfold Tru at Ho
  clear hw hwt hll hsw hz hcap hp hH hT
  show Calls Tryz.prog 3 #[.agg #[.string ⟨k.toArray⟩, .string ⟨nm.toArray⟩, .int .i64 n, .slice a l.length cap]] w _
  go_enter Tryz.func3, Tryz.ntmps3
  go_wp2_with fail
  refine (Hf.out _ (box_at HB0.out).2.1).mono ?_
  rintro r w1 ⟨rfl, hb⟩
  have Hw1 := Lib.hid (below_on HB0.out (box_at HB0.out).2.2 hb)
  clear hb
  have d0 : w1.cell? ⟨w.heap.size, 0, none⟩ = some (.string ⟨k.toArray⟩) := (box_at Hw1.out).1.cell 0
  have d1 : w1.cell? ⟨w.heap.size, 1, none⟩ = some (.string ⟨nm.toArray⟩) := (box_at Hw1.out).1.cell 1
  have d2 : w1.cell? ⟨w.heap.size, 2, none⟩ = some (.int .i64 n) := (box_at Hw1.out).1.cell 2
  have d3 : w1.cell? ⟨w.heap.size, 3, none⟩ = some (.slice a l.length cap) := (box_at Hw1.out).1.cell 3
  go_wp2_with fail
  refine (Hs.out _ (box_at Hw1.out).2.1).mono ?_
  rintro r w2 ⟨rfl, hb⟩
  have Hw2 := Lib.hid (below_on Hw1.out (box_at Hw1.out).2.2 hb)
  clear hb
  have d0 : w2.cell? ⟨w.heap.size, 0, none⟩ = some (.string ⟨k.toArray⟩) := (box_at Hw2.out).1.cell 0
  have d1 : w2.cell? ⟨w.heap.size, 1, none⟩ = some (.string ⟨nm.toArray⟩) := (box_at Hw2.out).1.cell 1
  have d2 : w2.cell? ⟨w.heap.size, 2, none⟩ = some (.int .i64 n) := (box_at Hw2.out).1.cell 2
  have d3 : w2.cell? ⟨w.heap.size, 3, none⟩ = some (.slice a l.length cap) := (box_at Hw2.out).1.cell 3
  by_cases h5 : (500 : Int) < (z : Int)
  · go_wp2_with fail
    refine (Hr.out _ (box_at Hw2.out).2.1).mono ?_
    rintro r w3 ⟨rfl, hb⟩
    have Hw3 := Lib.hid (below_on Hw2.out (box_at Hw2.out).2.2 hb)
    clear hb
    go_wp2_with fail
    go_ret
    exact ⟨rfl, (box_at Hw3.out).2.1⟩
  cases hso : (PE.mk k nm n l).sortB 112 with
  | false =>
    rw [hso] at Ho
    go_wp2_with fail
    refine (Ho.out _ (box_at Hw2.out).2.1).mono ?_
    rintro r w3 ⟨rfl, hb⟩
    have Hw3 := Lib.hid (below_on Hw2.out (box_at Hw2.out).2.2 hb)
    clear hb
    have d0 : w3.cell? ⟨w.heap.size, 0, none⟩ = some (.string ⟨k.toArray⟩) := (box_at Hw3.out).1.cell 0
    have d1 : w3.cell? ⟨w.heap.size, 1, none⟩ = some (.string ⟨nm.toArray⟩) := (box_at Hw3.out).1.cell 1
    have d2 : w3.cell? ⟨w.heap.size, 2, none⟩ = some (.int .i64 n) := (box_at Hw3.out).1.cell 2
    have d3 : w3.cell? ⟨w.heap.size, 3, none⟩ = some (.slice a l.length cap) := (box_at Hw3.out).1.cell 3
    go_wp2_with fail
    refine (Hr.out _ (box_at Hw3.out).2.1).mono ?_
    rintro r w4 ⟨rfl, hb⟩
    have Hw4 := Lib.hid (below_on Hw3.out (box_at Hw3.out).2.2 hb)
    clear hb
    go_wp2_with fail
    go_ret
    exact ⟨rfl, (box_at Hw4.out).2.1⟩
  | true =>
    rw [hso] at Ho
    obtain ⟨y, hy, hty⟩ := pos_says hso
    have hsd := sd_of_sort _ _ (Nat.le_refl _) _ hso
    have hnum := toks_num hsd
    have hlet := toks_le hsd
    have hw := Hw.out
    have hnt : (PE.mk k nm n l).toks.length ≤ 4194304 := by omega
    have hlt : (PE.mk k nm n l).toks.flatten.length ≤ 4194304 := by omega
    have hyl : y.txt.length ≤ 4194304 := by rw [← hty]; exact hlt
    have hul : y.unp.length ≤ 12582912 := by have := PC.unp_le y; omega
    have Ht := Lib.hid (fun (W : World) (hb : Below w.heap.size w W) => posTokens_c _ (.mk k nm n l) _ (Nat.le_refl _) hsd hnt (.slice a l.length cap) W (HH.out.below hb))
    unfold peVal strV PE.kind PE.name PE.num at Ht
    have hp1 := toks_pos1 hsd
    have Hp := Lib.hid (fun (W : World) (hb : Below w.heap.size w W) => PrintPos_c y W hy (by omega) (HT.out.below hb))
    have hub := PC.unb_unp y hy
    generalize (PE.mk k nm n l).toks = ts at hty hnt hlt Ht hp1 hnum hlet
    have Hty := Lib.hid hty
    have Hub := Lib.hid hub
    have Hlt := Lib.hid hlt
    clear hso hsd hnum hlet hw hy hty hub hlt
    go_wp2_with fail
    refine (Ho.out _ (box_at Hw2.out).2.1).mono ?_
    rintro r w3 ⟨rfl, hb⟩
    have Hw3 := Lib.hid (below_on Hw2.out (box_at Hw2.out).2.2 hb)
    clear hb
    have d0 : w3.cell? ⟨w.heap.size, 0, none⟩ = some (.string ⟨k.toArray⟩) := (box_at Hw3.out).1.cell 0
    have d1 : w3.cell? ⟨w.heap.size, 1, none⟩ = some (.string ⟨nm.toArray⟩) := (box_at Hw3.out).1.cell 1
    have d2 : w3.cell? ⟨w.heap.size, 2, none⟩ = some (.int .i64 n) := (box_at Hw3.out).1.cell 2
    have d3 : w3.cell? ⟨w.heap.size, 3, none⟩ = some (.slice a l.length cap) := (box_at Hw3.out).1.cell 3
    go_wp2_with fail
    refine (Ht.out _ (box_at Hw3.out).2.1).mono ?_
    rintro r w4 ⟨v4, rfl, own4, hb4⟩
    obtain ⟨q4, k4, rfl⟩ := own4.slice hp1
    have Hw4 := Lib.hid (below_on Hw3.out (box_at Hw3.out).2.2 hb4)
    have Own4 := Lib.hid own4
    clear own4 hb4 d0 d1 d2 d3
    go_wp2_with fail
    go_loop [3, 26] (fun v3 v26 => ∃ (j : Nat) (s : ByteArray), j ≤ ts.length ∧ v26 = .int .i64 j ∧ v3 = .string s ∧ s = ⟨(ts.take j).flatten.toArray⟩) (fun _ v26 => ts.length - (intOf v26).toNat)
    case atStart => exact ⟨0, _, Nat.zero_le _, rfl, rfl, rfl⟩
    case round =>
      obtain ⟨j, s, hj, rfl, rfl, hs⟩ := hrel
      by_cases hlt : j < ts.length
      · obtain ⟨t, ht⟩ : ∃ t, ts[j]? = some t := ⟨_, List.getElem?_eq_getElem hlt⟩
        have hss : s.size ≤ 4194304 := by rw [hs, sz_mk]; exact Nat.le_trans (flat_take_le ts j) Hlt.out
        have hts : (⟨t.toArray⟩ : ByteArray).size ≤ 4194304 := by rw [sz_mk]; exact Nat.le_trans (flat_part_le (List.mem_of_getElem? ht)) Hlt.out
        have hc : w4.cell? ((⟨q4, 0, none⟩ : Addr).add j) = some (strV t) := Own.cells Own4.out j (strV t) (by rw [List.getElem?_map, ht]; rfl)
        rw [add_zero] at hc
        unfold strV at hc
        have hi0 : (0 : Int) ≤ (j : Int) := by omega
        have hi1 : (j : Int) < (ts.length : Int) := by omega
        have hn : s ++ ⟨t.toArray⟩ = ⟨(ts.take (j + 1)).flatten.toArray⟩ := by rw [hs, mk_app, flat_take_succ ht]
        generalize (⟨t.toArray⟩ : ByteArray) = tb at hts hc hn
        have Hn := Lib.hid hn
        clear hn hs ht
        go_wp2_with fail
        go_round
        case rel => exact ⟨j + 1, _, hlt, by go_num, rfl, Hn.out⟩
        case measure => simp [intOf]; omega
      · have ej : j = ts.length := by omega
        subst ej
        rw [List.take_length, Hty.out] at hs
        subst hs
        go_wp2_with fail
        refine (Hp.out _ (box_at Hw4.out).2.1).mono ?_
        rintro r w5 ⟨c5, rfl, hb⟩
        have Hw5 := Lib.hid (below_on Hw4.out (box_at Hw4.out).2.2 hb)
        clear hb
        have hz6 : (ByteArray.mk y.unp.toArray).size = y.unp.length := sz_mk _
        have hb6 := fun j (h : j < y.unp.length) => bt_mk y.unp j h
        have he6 := ext_mk y.unp
        obtain ⟨s6, hs6⟩ : ∃ s6 : ByteArray, ⟨y.unp.toArray⟩ = s6 := ⟨_, rfl⟩
        rw [hs6] at hz6 hb6 he6 ⊢
        have hgb := get_bt s6
        have hle6 : s6.size ≤ 12582912 := by omega
        have Hz6 := Lib.hid hz6
        have Hb6 := Lib.hid hb6
        have He6 := Lib.hid he6
        clear hs6 hz6 hb6 he6
        go_wp2_with fail
        go_loop [9, 10] (fun v9 v10 => ∃ (i : Nat) (u : ByteArray), i ≤ y.unp.length ∧ v10 = .int .i64 i ∧ v9 = .string u ∧ u = ⟨(unb (y.unp.take i)).toArray⟩) (fun _ v10 => y.unp.length - (intOf v10).toNat)
        case atStart => exact ⟨0, _, Nat.zero_le _, rfl, rfl, rfl⟩
        case round =>
          obtain ⟨i, u, hi, rfl, rfl, hu⟩ := hrel
          have hz6 := Hz6.out
          by_cases hlt : i < y.unp.length
          · have hc : y.unp[i]? = some (y.unp[i]'hlt) := List.getElem?_eq_getElem hlt
            have hbt := Hb6.out i hlt
            have hex := He6.out i _ hc
            have hun := unb_take_succ hc
            generalize y.unp[i]'hlt = c at hc hbt hex hun
            have hsz : u.size ≤ 12582912 := by
              rw [hu, sz_mk]
              have h1 : (unb (y.unp.take i)).length ≤ (y.unp.take i).length := List.length_filter_le _ _
              have h2 := List.length_take_le i y.unp
              omega
            have hi0 : (0 : Int) ≤ (i : Int) := by omega
            have hi1 : (i : Int) < (s6.size : Int) := by omega
            have hi2 : i < s6.size := by omega
            have hi3 : (i : Int) + 1 ≤ (s6.size : Int) := by omega
            by_cases hc32 : c = 32
            · subst hc32
              have hbt : bt s6 i = 32 := hbt
              rw [if_pos rfl, List.append_nil] at hun
              have Hun := Lib.hid hun
              have Hu := Lib.hid hu
              have Hz := Lib.hid hz6
              clear hun hu hex hz6 hc
              go_wp2_with fail
              go_round
              case rel => exact ⟨i + 1, _, hlt, by go_num, rfl, by rw [Hun.out]; exact Hu.out⟩
              case measure => simp [intOf]; omega
            · have hne : ¬ bt s6 i = 32 := by
                rw [hbt]
                intro hh
                apply hc32
                apply UInt8.toNat_inj.1
                show c.toNat = 32
                omega
              rw [if_neg hc32] at hun
              have hn : u ++ s6.extract i (i + 1) = ⟨(unb (y.unp.take (i + 1))).toArray⟩ := by rw [hu, hex, mk_app, hun]
              have hes : (s6.extract i (i + 1)).size ≤ 1 := by rw [hex, sz_mk]; exact Nat.le_refl _
              have Hn := Lib.hid hn
              have Hz := Lib.hid hz6
              clear hun hu hex hz6 hc hn hbt
              go_wp2_with fail
              go_round
              case rel => exact ⟨i + 1, _, hlt, by go_num, rfl, Hn.out⟩
              case measure => simp [intOf]; omega
          · have ei : i = y.unp.length := by omega
            subst ei
            rw [List.take_length, Hub.out] at hu
            subst hu
            have hi3 : ¬ (y.unp.length : Int) < (s6.size : Int) := by omega
            clear hz6
            go_wp2_with fail
            go_ret
            exact ⟨rfl, (box_at Hw5.out).2.1⟩
end Go.Proofs.YthpianlilipggaaGreatDoor
