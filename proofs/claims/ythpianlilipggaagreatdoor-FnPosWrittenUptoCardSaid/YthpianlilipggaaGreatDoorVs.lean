/- The methods of choices: the parts' texts, joined. Condition: at most 2^24 parts, the joined text at most 2^30 letters long. -/
import Derived.Test.YthpianlilipggaaGreatDoorVq
namespace Go.Proofs.YthpianlilipggaaGreatDoor
open Go.RowKit Go.PlainAid

theorem infoStr : (Tryz.prog.info? 9).map (fun i => (i.zero, i.size, i.bytes)) = some (some (.string ⟨#[]⟩), 1, 16) := by kernel_rfl
/-- Texts of which properties speak, one of each. -/
def AllQ : List (ByteArray → Prop) → List ByteArray → Prop
  | [], [] => True
  | q :: qs, s :: ss => q s ∧ AllQ qs ss
  | _, _ => False
theorem AllQ.length : ∀ {qs : List (ByteArray → Prop)} {ss : List ByteArray}, AllQ qs ss → qs.length = ss.length
  | [], [], _ => rfl
  | _ :: _, _ :: _, h => by simp [AllQ.length h.2]
  | [], _ :: _, h => h.elim
  | _ :: _, [], h => h.elim
theorem AllQ.app : ∀ {qs rs : List (ByteArray → Prop)} {ss ts : List ByteArray}, AllQ qs ss → AllQ rs ts → AllQ (qs ++ rs) (ss ++ ts)
  | [], _, [], _, _, k => k
  | _ :: _, _, _ :: _, _, h, k => ⟨h.1, AllQ.app h.2 k⟩
  | [], _, _ :: _, _, h, _ => h.elim
  | _ :: _, _, [], _, h, _ => h.elim
theorem AllQ.snoc {qs : List (ByteArray → Prop)} {q : ByteArray → Prop} {ss : List ByteArray} {s : ByteArray} {j : Nat} (h : AllQ (qs.take j) ss) (hq : qs[j]? = some q) (hs : q s) : AllQ (qs.take (j + 1)) (ss ++ [s]) := by
  have : qs.take (j + 1) = qs.take j ++ [q] := by
    obtain ⟨hlt, e⟩ := List.getElem?_eq_some_iff.1 hq
    rw [List.take_succ_eq_append_getElem hlt, e]
  rw [this]
  exact AllQ.app h ⟨hs, trivial⟩
theorem All2.at {α : Type} {p : Value → α → Prop} : ∀ {vs : List Value} {xs : List α} {j : Nat}, All2 p vs xs → j < vs.length → ∃ v x, vs[j]? = some v ∧ xs[j]? = some x ∧ p v x
  | [], _, _, _, h => absurd h (Nat.not_lt_zero _)
  | _ :: _, [], _, h, _ => h.elim
  | v :: _, x :: _, 0, h, _ => ⟨v, x, rfl, rfl, h.1⟩
  | _ :: vs, _ :: xs, j + 1, h, hj => by
    obtain ⟨v, x, h1, h2, h3⟩ := All2.at (j := j) h.2 (by simpa using hj)
    exact ⟨v, x, by simpa using h1, by simpa using h2, h3⟩
theorem below_of_grown {w w' : World} (h : w.grownBy w' none) : Below w.heap.size w w' := ⟨h.os, h.tape, h.output, h.size, fun k hk => h.block k hk (by simp)⟩

set_option maxHeartbeats 2000000 in
set_option maxRecDepth 20000 in
theorem nodesUnp_c (w : World) (k g cap : Nat) (vs : List Value) (Qs : List (ByteArray → Prop)) (h : AtB w k 75 #[.slice (some ⟨g, 0, none⟩) vs.length cap]) (hr : RowOf w g 63 vs) (hcap : vs.length ≤ cap) (h0 : 0 < vs.length) (hn : vs.length ≤ 16777216)
    (hs : All2 (fun v Q => Sp w "Unparse" #[] v Q) vs Qs) (hq : ∀ ss, AllQ Qs ss → (Lib.join (ss.map (·.data.toList)) [32, 63, 63, 32]).length ≤ 1073741824) :
    Calls Tryz.prog 100 #[ptr k] w (Ret (fun s => ∃ ss, AllQ Qs ss ∧ s = ⟨#[40]⟩ ++ ⟨(Lib.join (ss.map (·.data.toList)) [32, 63, 63, 32]).toArray⟩ ++ ⟨#[41]⟩) w) := by
  obtain ⟨C, hC, hv⟩ := hr
  have hl := All2.length hs
  have c0 : w.cell? ⟨k, 0, none⟩ = some (.slice (some ⟨g, 0, none⟩) vs.length cap) := h.cell 0
  obtain ⟨i0, hi, hz0, hz1, hz2⟩ := info_parts infoStr
  have H := Lib.hid h
  have HC := Lib.hid hC
  have Hv := Lib.hid hv
  have Hs := Lib.hid hs
  have Hq := Lib.hid hq
  have Hl := Lib.hid hl
  have hbr := Below.refl w.heap.size w
  clear h hC hv hs hq hl
  unfold ptr
  go_enter Tryz.func100, Tryz.ntmps100
  go_wp2_with (at_make; refine wpList_make_own _ rfl _ (.tmp 10) 29 rfl w.heap.size 9 i0 (.string ⟨#[]⟩) 1 Tryz.underlying29 hi hz0 hz1 .i64 .i64 _ vs.length rfl rfl rfl (by rw [hz2]; omega) (by unfold maxLen; omega) (Nat.le_refl _) ?_; intro w1 hown1 hgr1; have hb1 := below_of_grown hgr1; have y0 : w1.cell? ⟨k, 0, none⟩ = some (.slice (some ⟨g, 0, none⟩) vs.length cap) := (H.out.below hb1).cell 0)
  have Hown1 := Lib.hid hown1
  clear hown1 hgr1 c0
  go_loopw [3, 17] (fun v3 v17 wr => ∃ (j : Nat) (ss : List ByteArray), j ≤ vs.length ∧ v17 = .int .i64 j ∧ AllQ (Qs.take j) ss ∧ wr.ownsRow w.heap.size 9 1 v3 ss.length (ss.map Value.string) ∧ Below w.heap.size w wr) (fun _ v17 _ => vs.length - (intOf v17).toNat)
  case atStart => exact ⟨0, [], Nat.zero_le _, rfl, trivial, Hown1.out, hb1⟩
  case round =>
    obtain ⟨j, ss, hj, rfl, hall, hown, hbw⟩ := hrel
    have hsl := AllQ.length hall
    have hss : ss.length = j := by rw [← hsl, List.length_take, ← Hl.out]; omega
    by_cases hlt : j < vs.length
    · obtain ⟨v, Q, hvj, hQj, hspj⟩ := All2.at Hs.out hlt
      obtain ⟨T, p, rfl⟩ := hspj.shape
      have hcj : wr.cell? ⟨g, j, none⟩ = some (.iface T (.pointer (some p))) := by rw [(HC.out.below hbw).cell j]; exact Hv.out j _ hvj
      have hi0 : (0 : Int) ≤ (j : Int) := by omega
      have hi1 : (j : Int) < (vs.length : Int) := by omega
      have hsl16 : ss.length ≤ 16777216 := by omega
      have Hsp := Lib.hid hspj
      have Hown := Lib.hid hown
      have Hall := Lib.hid hall
      have HQ := Lib.hid hQj
      have Hss := Lib.hid hss
      clear hspj hown hall hQj hvj hsl hss hb1 y0
      go_wp2_with (first | (((with_reducible show wpList _ _ _ ({ dst := _, op := .call { callee := .invoke _ _, args := _, argTypes := _ }, type := _, pos := _, after := _, guard := _ } :: _) _ _); refine wpList_invoke rfl (.tmp 22) "Unparse" #[] #[] rfl w _ #[] Q rfl (by simp) Hsp.out (by assumption) ?_; intro s1 w2 k1 hb2; have K1 := Lib.hid k1; have hb2' := below_next (B := w.heap.size) hbw hb2 (Nat.le_refl _); have Hown2 := Lib.hid (own_below Hown.out hb2); clear k1 hb2)) | (at_builtin; refine wpList_append_lies _ rfl (.tmp 21) (.tmp 24) 29 rfl w.heap.size 9 i0 (.string ⟨#[]⟩) 1 16 Tryz.underlying29 hi hz0 hz1 hz2 rfl (by decide) _ ss.length (ss.map Value.string) rfl (Hown2.out.alloc _) ⟨w2.heap.size, 0, none⟩ 1 1 [.string s1] rfl rfl (cells_new w2 #[.string s1] 9) (by intro u hu; simp at hu; subst hu; rfl) (by omega) (by unfold maxLen; omega) (by omega) (by have := hb2'.size; simp; omega) _ rfl ?_; intro g3 c3 w3 hown3 hgrow3 hat3 hlt3; have hb3 : Below w.heap.size w w3 := (hb2'.alloc hb2'.size (.cells #[.string s1] 9)).grown hgrow3 (by have := hb2'.size; simp; omega) (fun q hq => (Hown2.out.lt q hq).1)))
      have Hf := Lib.hid (And.intro hown3 hb3)
      clear hown3 hb3 hgrow3 hat3
      refine ⟨⟨j + 1, ss ++ [s1], hlt, by go_num, AllQ.snoc Hall.out HQ.out K1.out, by simpa using Hf.out.1, Hf.out.2⟩, ?_⟩
      simp [intOf]
      omega
    · have ej : j = vs.length := by omega
      have hall2 : AllQ Qs ss := by rw [ej, Hl.out, List.take_length] at hall; exact hall
      obtain ⟨gr, cr, rfl⟩ := own_slice hown (by omega)
      obtain ⟨⟨D, hD, hDv⟩, hcr⟩ := rowOf_own hown
      have hjl := Hq.out ss hall2
      have Hj := Lib.hid (Tryz.strings_Join gr 0 cr ss ⟨#[32, 63, 63, 32]⟩ wr (fun q u hu => by
        rw [Nat.zero_add, hD.cell q]
        exact hDv q _ (by rw [List.getElem?_map, hu]; rfl)) (AtB.lt hD) (by omega) hcr (by show (Lib.join (ss.map (·.data.toList)) [32, 63, 63, 32]).length ≤ _; omega))
      have Hall := Lib.hid hall2
      have Hb := Lib.hid hbw
      have hz9 : (Lib.join (ss.map (·.data.toList)) [32, 63, 63, 32]).length ≤ 1073741824 := hjl
      generalize hjn : Lib.join (ss.map (·.data.toList)) [32, 63, 63, 32] = J at hz9
      have Hjn := Lib.hid hjn
      rw [show (Lib.join (ss.map (·.data.toList)) (⟨#[32, 63, 63, 32]⟩ : ByteArray).data.toList) = J from hjn] at Hj
      clear hall hall2 hown hbw hD hDv hcr hsl hjl hss hjn
      go_wp2_with fail
      refine Hj.out.mono ?_
      rintro e w4 ⟨rfl, hb4⟩
      have Hb4 := Lib.hid (below_next (B := w.heap.size) Hb.out hb4 (Nat.le_refl _))
      clear hb4
      go_wp2_with fail
      go_ret
      exact ⟨_, rfl, ⟨ss, Hall.out, by rw [Hjn.out]⟩, Hb4.out⟩

set_option maxHeartbeats 2000000 in
set_option maxRecDepth 20000 in
theorem altsUnp_c (w : World) (k g cap : Nat) (vs : List Value) (Qs : List (ByteArray → Prop)) (h : AtB w k 71 #[.slice (some ⟨g, 0, none⟩) vs.length cap]) (hr : RowOf w g 39 vs) (hcap : vs.length ≤ cap) (h0 : 0 < vs.length) (hn : vs.length ≤ 16777216)
    (hs : All2 (fun v Q => Sp w "Unparse" #[] v Q) vs Qs) (hq : ∀ ss, AllQ Qs ss → (Lib.join (ss.map (·.data.toList)) [32, 124, 124, 32]).length ≤ 1073741824) :
    Calls Tryz.prog 90 #[ptr k] w (Ret (fun s => ∃ ss, AllQ Qs ss ∧ s = ⟨(Lib.join (ss.map (·.data.toList)) [32, 124, 124, 32]).toArray⟩) w) := by
  obtain ⟨C, hC, hv⟩ := hr
  have hl := All2.length hs
  have c0 : w.cell? ⟨k, 0, none⟩ = some (.slice (some ⟨g, 0, none⟩) vs.length cap) := h.cell 0
  obtain ⟨i0, hi, hz0, hz1, hz2⟩ := info_parts infoStr
  have H := Lib.hid h
  have HC := Lib.hid hC
  have Hv := Lib.hid hv
  have Hs := Lib.hid hs
  have Hq := Lib.hid hq
  have Hl := Lib.hid hl
  have hbr := Below.refl w.heap.size w
  clear h hC hv hs hq hl
  unfold ptr
  go_enter Tryz.func90, Tryz.ntmps90
  go_wp2_with (at_make; refine wpList_make_own _ rfl _ (.tmp 10) 29 rfl w.heap.size 9 i0 (.string ⟨#[]⟩) 1 Tryz.underlying29 hi hz0 hz1 .i64 .i64 _ vs.length rfl rfl rfl (by rw [hz2]; omega) (by unfold maxLen; omega) (Nat.le_refl _) ?_; intro w1 hown1 hgr1; have hb1 := below_of_grown hgr1; have y0 : w1.cell? ⟨k, 0, none⟩ = some (.slice (some ⟨g, 0, none⟩) vs.length cap) := (H.out.below hb1).cell 0)
  have Hown1 := Lib.hid hown1
  clear hown1 hgr1 c0
  go_loopw [3, 17] (fun v3 v17 wr => ∃ (j : Nat) (ss : List ByteArray), j ≤ vs.length ∧ v17 = .int .i64 j ∧ AllQ (Qs.take j) ss ∧ wr.ownsRow w.heap.size 9 1 v3 ss.length (ss.map Value.string) ∧ Below w.heap.size w wr) (fun _ v17 _ => vs.length - (intOf v17).toNat)
  case atStart => exact ⟨0, [], Nat.zero_le _, rfl, trivial, Hown1.out, hb1⟩
  case round =>
    obtain ⟨j, ss, hj, rfl, hall, hown, hbw⟩ := hrel
    have hsl := AllQ.length hall
    have hss : ss.length = j := by rw [← hsl, List.length_take, ← Hl.out]; omega
    by_cases hlt : j < vs.length
    · obtain ⟨v, Q, hvj, hQj, hspj⟩ := All2.at Hs.out hlt
      obtain ⟨T, p, rfl⟩ := hspj.shape
      have hcj : wr.cell? ⟨g, j, none⟩ = some (.iface T (.pointer (some p))) := by rw [(HC.out.below hbw).cell j]; exact Hv.out j _ hvj
      have hi0 : (0 : Int) ≤ (j : Int) := by omega
      have hi1 : (j : Int) < (vs.length : Int) := by omega
      have hsl16 : ss.length ≤ 16777216 := by omega
      have Hsp := Lib.hid hspj
      have Hown := Lib.hid hown
      have Hall := Lib.hid hall
      have HQ := Lib.hid hQj
      have Hss := Lib.hid hss
      clear hspj hown hall hQj hvj hsl hss hb1 y0
      go_wp2_with (first | (((with_reducible show wpList _ _ _ ({ dst := _, op := .call { callee := .invoke _ _, args := _, argTypes := _ }, type := _, pos := _, after := _, guard := _ } :: _) _ _); refine wpList_invoke rfl (.tmp 22) "Unparse" #[] #[] rfl w _ #[] Q rfl (by simp) Hsp.out (by assumption) ?_; intro s1 w2 k1 hb2; have K1 := Lib.hid k1; have hb2' := below_next (B := w.heap.size) hbw hb2 (Nat.le_refl _); have Hown2 := Lib.hid (own_below Hown.out hb2); clear k1 hb2)) | (at_builtin; refine wpList_append_lies _ rfl (.tmp 21) (.tmp 24) 29 rfl w.heap.size 9 i0 (.string ⟨#[]⟩) 1 16 Tryz.underlying29 hi hz0 hz1 hz2 rfl (by decide) _ ss.length (ss.map Value.string) rfl (Hown2.out.alloc _) ⟨w2.heap.size, 0, none⟩ 1 1 [.string s1] rfl rfl (cells_new w2 #[.string s1] 9) (by intro u hu; simp at hu; subst hu; rfl) (by omega) (by unfold maxLen; omega) (by omega) (by have := hb2'.size; simp; omega) _ rfl ?_; intro g3 c3 w3 hown3 hgrow3 hat3 hlt3; have hb3 : Below w.heap.size w w3 := (hb2'.alloc hb2'.size (.cells #[.string s1] 9)).grown hgrow3 (by have := hb2'.size; simp; omega) (fun q hq => (Hown2.out.lt q hq).1)))
      have Hf := Lib.hid (And.intro hown3 hb3)
      clear hown3 hb3 hgrow3 hat3
      refine ⟨⟨j + 1, ss ++ [s1], hlt, by go_num, AllQ.snoc Hall.out HQ.out K1.out, by simpa using Hf.out.1, Hf.out.2⟩, ?_⟩
      simp [intOf]
      omega
    · have ej : j = vs.length := by omega
      have hall2 : AllQ Qs ss := by rw [ej, Hl.out, List.take_length] at hall; exact hall
      obtain ⟨gr, cr, rfl⟩ := own_slice hown (by omega)
      obtain ⟨⟨D, hD, hDv⟩, hcr⟩ := rowOf_own hown
      have hjl := Hq.out ss hall2
      have Hj := Lib.hid (Tryz.strings_Join gr 0 cr ss ⟨#[32, 124, 124, 32]⟩ wr (fun q u hu => by
        rw [Nat.zero_add, hD.cell q]
        exact hDv q _ (by rw [List.getElem?_map, hu]; rfl)) (AtB.lt hD) (by omega) hcr (by show (Lib.join (ss.map (·.data.toList)) [32, 124, 124, 32]).length ≤ _; omega))
      have Hall := Lib.hid hall2
      have Hb := Lib.hid hbw
      have hz9 : (Lib.join (ss.map (·.data.toList)) [32, 124, 124, 32]).length ≤ 1073741824 := hjl
      generalize hjn : Lib.join (ss.map (·.data.toList)) [32, 124, 124, 32] = J at hz9
      have Hjn := Lib.hid hjn
      rw [show (Lib.join (ss.map (·.data.toList)) (⟨#[32, 124, 124, 32]⟩ : ByteArray).data.toList) = J from hjn] at Hj
      clear hall hall2 hown hbw hD hDv hcr hsl hjl hss hjn
      go_wp2_with fail
      refine Hj.out.mono ?_
      rintro e w4 ⟨rfl, hb4⟩
      have Hb4 := Lib.hid (below_next (B := w.heap.size) Hb.out hb4 (Nat.le_refl _))
      clear hb4
      go_wp2_with fail
      go_ret
      exact ⟨_, rfl, ⟨ss, Hall.out, by rw [Hjn.out]⟩, Hb4.out⟩

set_option maxHeartbeats 2000000 in
set_option maxRecDepth 20000 in
theorem nodesGo_c (w : World) (k g cap : Nat) (x : ByteArray) (vs : List Value) (Qs : List (ByteArray → Prop)) (h : AtB w k 75 #[.slice (some ⟨g, 0, none⟩) vs.length cap]) (hr : RowOf w g 63 vs) (hcap : vs.length ≤ cap) (h0 : 0 < vs.length) (hn : vs.length ≤ 16777216)
    (hs : All2 (fun v Q => Sp w "NodeExprToGo" #[.string x] v Q) vs Qs) (hq : ∀ ss, AllQ Qs ss → (Lib.join (ss.map (·.data.toList)) [44, 32]).length ≤ 1073741824) :
    Calls Tryz.prog 99 #[ptr k, .string x] w (Ret (fun s => ∃ ss, AllQ Qs ss ∧ s = ⟨#[110, 111, 100, 101, 67, 104, 111, 105, 99, 101, 40]⟩ ++ ⟨(Lib.join (ss.map (·.data.toList)) [44, 32]).toArray⟩ ++ ⟨#[41]⟩) w) := by
  obtain ⟨C, hC, hv⟩ := hr
  have hl := All2.length hs
  have c0 : w.cell? ⟨k, 0, none⟩ = some (.slice (some ⟨g, 0, none⟩) vs.length cap) := h.cell 0
  obtain ⟨i0, hi, hz0, hz1, hz2⟩ := info_parts infoStr
  have H := Lib.hid h
  have HC := Lib.hid hC
  have Hv := Lib.hid hv
  have Hs := Lib.hid hs
  have Hq := Lib.hid hq
  have Hl := Lib.hid hl
  have hbr := Below.refl w.heap.size w
  clear h hC hv hs hq hl
  unfold ptr
  go_enter Tryz.func99, Tryz.ntmps99
  go_wp2_with (at_make; refine wpList_make_own _ rfl _ (.tmp 12) 29 rfl w.heap.size 9 i0 (.string ⟨#[]⟩) 1 Tryz.underlying29 hi hz0 hz1 .i64 .i64 _ vs.length rfl rfl rfl (by rw [hz2]; omega) (by unfold maxLen; omega) (Nat.le_refl _) ?_; intro w1 hown1 hgr1; have hb1 := below_of_grown hgr1; have y0 : w1.cell? ⟨k, 0, none⟩ = some (.slice (some ⟨g, 0, none⟩) vs.length cap) := (H.out.below hb1).cell 0)
  have Hown1 := Lib.hid hown1
  clear hown1 hgr1 c0
  go_loopw [5, 19] (fun v3 v17 wr => ∃ (j : Nat) (ss : List ByteArray), j ≤ vs.length ∧ v17 = .int .i64 j ∧ AllQ (Qs.take j) ss ∧ wr.ownsRow w.heap.size 9 1 v3 ss.length (ss.map Value.string) ∧ Below w.heap.size w wr) (fun _ v17 _ => vs.length - (intOf v17).toNat)
  case atStart => exact ⟨0, [], Nat.zero_le _, rfl, trivial, Hown1.out, hb1⟩
  case round =>
    obtain ⟨j, ss, hj, rfl, hall, hown, hbw⟩ := hrel
    have hsl := AllQ.length hall
    have hss : ss.length = j := by rw [← hsl, List.length_take, ← Hl.out]; omega
    by_cases hlt : j < vs.length
    · obtain ⟨v, Q, hvj, hQj, hspj⟩ := All2.at Hs.out hlt
      obtain ⟨T, p, rfl⟩ := hspj.shape
      have hcj : wr.cell? ⟨g, j, none⟩ = some (.iface T (.pointer (some p))) := by rw [(HC.out.below hbw).cell j]; exact Hv.out j _ hvj
      have hi0 : (0 : Int) ≤ (j : Int) := by omega
      have hi1 : (j : Int) < (vs.length : Int) := by omega
      have hsl16 : ss.length ≤ 16777216 := by omega
      have Hsp := Lib.hid hspj
      have Hown := Lib.hid hown
      have Hall := Lib.hid hall
      have HQ := Lib.hid hQj
      have Hss := Lib.hid hss
      clear hspj hown hall hQj hvj hsl hss hb1 y0
      go_wp2_with (first | (((with_reducible show wpList _ _ _ ({ dst := _, op := .call { callee := .invoke _ _, args := _, argTypes := _ }, type := _, pos := _, after := _, guard := _ } :: _) _ _); refine wpList_invoke rfl (.tmp 24) "NodeExprToGo" #[.tmp 25] #[9] rfl w _ #[.string x] Q rfl (by simp only [List.map_toArray, List.map_cons, List.map_nil]; rfl) Hsp.out (by assumption) ?_; intro s1 w2 k1 hb2; have K1 := Lib.hid k1; have hb2' := below_next (B := w.heap.size) hbw hb2 (Nat.le_refl _); have Hown2 := Lib.hid (own_below Hown.out hb2); clear k1 hb2)) | (at_builtin; refine wpList_append_lies _ rfl (.tmp 23) (.tmp 27) 29 rfl w.heap.size 9 i0 (.string ⟨#[]⟩) 1 16 Tryz.underlying29 hi hz0 hz1 hz2 rfl (by decide) _ ss.length (ss.map Value.string) rfl (Hown2.out.alloc _) ⟨w2.heap.size, 0, none⟩ 1 1 [.string s1] rfl rfl (cells_new w2 #[.string s1] 9) (by intro u hu; simp at hu; subst hu; rfl) (by omega) (by unfold maxLen; omega) (by omega) (by have := hb2'.size; simp; omega) _ rfl ?_; intro g3 c3 w3 hown3 hgrow3 hat3 hlt3; have hb3 : Below w.heap.size w w3 := (hb2'.alloc hb2'.size (.cells #[.string s1] 9)).grown hgrow3 (by have := hb2'.size; simp; omega) (fun q hq => (Hown2.out.lt q hq).1)))
      have Hf := Lib.hid (And.intro hown3 hb3)
      clear hown3 hb3 hgrow3 hat3
      refine ⟨⟨j + 1, ss ++ [s1], hlt, by go_num, AllQ.snoc Hall.out HQ.out K1.out, by simpa using Hf.out.1, Hf.out.2⟩, ?_⟩
      simp [intOf]
      omega
    · have ej : j = vs.length := by omega
      have hall2 : AllQ Qs ss := by rw [ej, Hl.out, List.take_length] at hall; exact hall
      obtain ⟨gr, cr, rfl⟩ := own_slice hown (by omega)
      obtain ⟨⟨D, hD, hDv⟩, hcr⟩ := rowOf_own hown
      have hjl := Hq.out ss hall2
      have Hj := Lib.hid (Tryz.strings_Join gr 0 cr ss ⟨#[44, 32]⟩ wr (fun q u hu => by
        rw [Nat.zero_add, hD.cell q]
        exact hDv q _ (by rw [List.getElem?_map, hu]; rfl)) (AtB.lt hD) (by omega) hcr (by show (Lib.join (ss.map (·.data.toList)) [44, 32]).length ≤ _; omega))
      have Hall := Lib.hid hall2
      have Hb := Lib.hid hbw
      have hz9 : (Lib.join (ss.map (·.data.toList)) [44, 32]).length ≤ 1073741824 := hjl
      generalize hjn : Lib.join (ss.map (·.data.toList)) [44, 32] = J at hz9
      have Hjn := Lib.hid hjn
      rw [show (Lib.join (ss.map (·.data.toList)) (⟨#[44, 32]⟩ : ByteArray).data.toList) = J from hjn] at Hj
      clear hall hall2 hown hbw hD hDv hcr hsl hjl hss hjn
      go_wp2_with fail
      refine Hj.out.mono ?_
      rintro e w4 ⟨rfl, hb4⟩
      have Hb4 := Lib.hid (below_next (B := w.heap.size) Hb.out hb4 (Nat.le_refl _))
      clear hb4
      go_wp2_with fail
      go_ret
      exact ⟨_, rfl, ⟨ss, Hall.out, by rw [Hjn.out]⟩, Hb4.out⟩

set_option maxHeartbeats 2000000 in
set_option maxRecDepth 20000 in
theorem altsGo_c (w : World) (k g cap : Nat) (x : ByteArray) (vs : List Value) (Qs : List (ByteArray → Prop)) (h : AtB w k 71 #[.slice (some ⟨g, 0, none⟩) vs.length cap]) (hr : RowOf w g 39 vs) (hcap : vs.length ≤ cap) (h0 : 0 < vs.length) (hn : vs.length ≤ 16777216)
    (hs : All2 (fun v Q => Sp w "PosExprToGo" #[.string x] v Q) vs Qs) (hq : ∀ ss, AllQ Qs ss → (Lib.join (ss.map (·.data.toList)) [44, 32]).length ≤ 1073741824) :
    Calls Tryz.prog 89 #[ptr k, .string x] w (Ret (fun s => ∃ ss, AllQ Qs ss ∧ s = ⟨#[112, 111, 115, 67, 104, 111, 105, 99, 101, 40]⟩ ++ ⟨(Lib.join (ss.map (·.data.toList)) [44, 32]).toArray⟩ ++ ⟨#[41]⟩) w) := by
  obtain ⟨C, hC, hv⟩ := hr
  have hl := All2.length hs
  have c0 : w.cell? ⟨k, 0, none⟩ = some (.slice (some ⟨g, 0, none⟩) vs.length cap) := h.cell 0
  obtain ⟨i0, hi, hz0, hz1, hz2⟩ := info_parts infoStr
  have H := Lib.hid h
  have HC := Lib.hid hC
  have Hv := Lib.hid hv
  have Hs := Lib.hid hs
  have Hq := Lib.hid hq
  have Hl := Lib.hid hl
  have hbr := Below.refl w.heap.size w
  clear h hC hv hs hq hl
  unfold ptr
  go_enter Tryz.func89, Tryz.ntmps89
  go_wp2_with (at_make; refine wpList_make_own _ rfl _ (.tmp 12) 29 rfl w.heap.size 9 i0 (.string ⟨#[]⟩) 1 Tryz.underlying29 hi hz0 hz1 .i64 .i64 _ vs.length rfl rfl rfl (by rw [hz2]; omega) (by unfold maxLen; omega) (Nat.le_refl _) ?_; intro w1 hown1 hgr1; have hb1 := below_of_grown hgr1; have y0 : w1.cell? ⟨k, 0, none⟩ = some (.slice (some ⟨g, 0, none⟩) vs.length cap) := (H.out.below hb1).cell 0)
  have Hown1 := Lib.hid hown1
  clear hown1 hgr1 c0
  go_loopw [5, 19] (fun v3 v17 wr => ∃ (j : Nat) (ss : List ByteArray), j ≤ vs.length ∧ v17 = .int .i64 j ∧ AllQ (Qs.take j) ss ∧ wr.ownsRow w.heap.size 9 1 v3 ss.length (ss.map Value.string) ∧ Below w.heap.size w wr) (fun _ v17 _ => vs.length - (intOf v17).toNat)
  case atStart => exact ⟨0, [], Nat.zero_le _, rfl, trivial, Hown1.out, hb1⟩
  case round =>
    obtain ⟨j, ss, hj, rfl, hall, hown, hbw⟩ := hrel
    have hsl := AllQ.length hall
    have hss : ss.length = j := by rw [← hsl, List.length_take, ← Hl.out]; omega
    by_cases hlt : j < vs.length
    · obtain ⟨v, Q, hvj, hQj, hspj⟩ := All2.at Hs.out hlt
      obtain ⟨T, p, rfl⟩ := hspj.shape
      have hcj : wr.cell? ⟨g, j, none⟩ = some (.iface T (.pointer (some p))) := by rw [(HC.out.below hbw).cell j]; exact Hv.out j _ hvj
      have hi0 : (0 : Int) ≤ (j : Int) := by omega
      have hi1 : (j : Int) < (vs.length : Int) := by omega
      have hsl16 : ss.length ≤ 16777216 := by omega
      have Hsp := Lib.hid hspj
      have Hown := Lib.hid hown
      have Hall := Lib.hid hall
      have HQ := Lib.hid hQj
      have Hss := Lib.hid hss
      clear hspj hown hall hQj hvj hsl hss hb1 y0
      go_wp2_with (first | (((with_reducible show wpList _ _ _ ({ dst := _, op := .call { callee := .invoke _ _, args := _, argTypes := _ }, type := _, pos := _, after := _, guard := _ } :: _) _ _); refine wpList_invoke rfl (.tmp 24) "PosExprToGo" #[.tmp 25] #[9] rfl w _ #[.string x] Q rfl (by simp only [List.map_toArray, List.map_cons, List.map_nil]; rfl) Hsp.out (by assumption) ?_; intro s1 w2 k1 hb2; have K1 := Lib.hid k1; have hb2' := below_next (B := w.heap.size) hbw hb2 (Nat.le_refl _); have Hown2 := Lib.hid (own_below Hown.out hb2); clear k1 hb2)) | (at_builtin; refine wpList_append_lies _ rfl (.tmp 23) (.tmp 27) 29 rfl w.heap.size 9 i0 (.string ⟨#[]⟩) 1 16 Tryz.underlying29 hi hz0 hz1 hz2 rfl (by decide) _ ss.length (ss.map Value.string) rfl (Hown2.out.alloc _) ⟨w2.heap.size, 0, none⟩ 1 1 [.string s1] rfl rfl (cells_new w2 #[.string s1] 9) (by intro u hu; simp at hu; subst hu; rfl) (by omega) (by unfold maxLen; omega) (by omega) (by have := hb2'.size; simp; omega) _ rfl ?_; intro g3 c3 w3 hown3 hgrow3 hat3 hlt3; have hb3 : Below w.heap.size w w3 := (hb2'.alloc hb2'.size (.cells #[.string s1] 9)).grown hgrow3 (by have := hb2'.size; simp; omega) (fun q hq => (Hown2.out.lt q hq).1)))
      have Hf := Lib.hid (And.intro hown3 hb3)
      clear hown3 hb3 hgrow3 hat3
      refine ⟨⟨j + 1, ss ++ [s1], hlt, by go_num, AllQ.snoc Hall.out HQ.out K1.out, by simpa using Hf.out.1, Hf.out.2⟩, ?_⟩
      simp [intOf]
      omega
    · have ej : j = vs.length := by omega
      have hall2 : AllQ Qs ss := by rw [ej, Hl.out, List.take_length] at hall; exact hall
      obtain ⟨gr, cr, rfl⟩ := own_slice hown (by omega)
      obtain ⟨⟨D, hD, hDv⟩, hcr⟩ := rowOf_own hown
      have hjl := Hq.out ss hall2
      have Hj := Lib.hid (Tryz.strings_Join gr 0 cr ss ⟨#[44, 32]⟩ wr (fun q u hu => by
        rw [Nat.zero_add, hD.cell q]
        exact hDv q _ (by rw [List.getElem?_map, hu]; rfl)) (AtB.lt hD) (by omega) hcr (by show (Lib.join (ss.map (·.data.toList)) [44, 32]).length ≤ _; omega))
      have Hall := Lib.hid hall2
      have Hb := Lib.hid hbw
      have hz9 : (Lib.join (ss.map (·.data.toList)) [44, 32]).length ≤ 1073741824 := hjl
      generalize hjn : Lib.join (ss.map (·.data.toList)) [44, 32] = J at hz9
      have Hjn := Lib.hid hjn
      rw [show (Lib.join (ss.map (·.data.toList)) (⟨#[44, 32]⟩ : ByteArray).data.toList) = J from hjn] at Hj
      clear hall hall2 hown hbw hD hDv hcr hsl hjl hss hjn
      go_wp2_with fail
      refine Hj.out.mono ?_
      rintro e w4 ⟨rfl, hb4⟩
      have Hb4 := Lib.hid (below_next (B := w.heap.size) Hb.out hb4 (Nat.le_refl _))
      clear hb4
      go_wp2_with fail
      go_ret
      exact ⟨_, rfl, ⟨ss, Hall.out, by rw [Hjn.out]⟩, Hb4.out⟩
end Go.Proofs.YthpianlilipggaaGreatDoor
