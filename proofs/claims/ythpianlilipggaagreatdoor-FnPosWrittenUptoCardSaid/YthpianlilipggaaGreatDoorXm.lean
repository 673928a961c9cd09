/- The law's tokens at a choice and at a list of nodes. Condition: at most 2^22 tokens. -/
import Derived.Test.YthpianlilipggaaGreatDoorXl
namespace Go.Proofs.YthpianlilipggaaGreatDoor
open Go.RowKit Go.PlainAid

/-- The tokens of the first j parts, parted by sep. -/
def Jn (sep : List Bs) (l : List PE) (j : Nat) : List Bs := PE.joined sep ((l.take j).map PE.toks)
theorem Jn_one {sep : List Bs} {l : List PE} {e : PE} (h : l[0]? = some e) : Jn sep l 1 = e.toks := by
  match l, h with
  | a :: r, h =>
    cases h
    simp [Jn, PE.joined]
theorem Jn_succ {sep : List Bs} {l : List PE} {e : PE} {j : Nat} (h0 : 0 < j) (h : l[j]? = some e) : Jn sep l (j + 1) = Jn sep l j ++ sep ++ e.toks := by
  obtain ⟨hlt, he⟩ := List.getElem?_eq_some_iff.1 h
  unfold Jn
  rw [List.take_succ_eq_append_getElem hlt, he, List.map_append]
  match l, hlt, h0 with
  | a :: r, hlt, h0 =>
    obtain ⟨i, rfl⟩ : ∃ i, j = i + 1 := ⟨j - 1, by omega⟩
    simp [PE.joined, List.flatMap_append]
theorem Jn_mono {sep : List Bs} {l : List PE} (j : Nat) : (Jn sep l j).length ≤ (Jn sep l (j + 1)).length := by
  rcases Nat.lt_or_ge j l.length with h | h
  · rcases Nat.eq_zero_or_pos j with rfl | h0
    · simp [Jn, PE.joined]
    · rw [Jn_succ h0 (List.getElem?_eq_getElem h)]
      simp only [List.length_append]
      omega
  · unfold Jn
    rw [List.take_of_length_le h, List.take_of_length_le (by omega)]
    exact Nat.le_refl _
theorem Jn_mono2 {sep : List Bs} {l : List PE} (j k : Nat) : (Jn sep l j).length ≤ (Jn sep l (j + k)).length := by
  induction k with
  | zero => exact Nat.le_refl _
  | succ k ih => exact Nat.le_trans ih (Jn_mono (j + k))
theorem Jn_le {sep : List Bs} {l : List PE} {j : Nat} (h : j ≤ l.length) : (Jn sep l j).length ≤ (Jn sep l l.length).length := by
  obtain ⟨k, hk⟩ := Nat.exists_eq_add_of_le h
  have := Jn_mono2 (sep := sep) (l := l) j k
  rwa [← hk] at this
theorem Jn_pos {sep : List Bs} {l : List PE} {j : Nat} (hp : ∀ e ∈ l, 0 < e.toks.length) (h0 : 0 < j) (hl : 0 < l.length) : 0 < (Jn sep l j).length := by
  have h1 := Jn_one (sep := sep) (List.getElem?_eq_getElem hl)
  have h2 := Jn_mono2 (sep := sep) (l := l) 1 (j - 1)
  rw [show 1 + (j - 1) = j by omega, h1] at h2
  have := hp _ (List.getElem_mem hl)
  omega
theorem own_nil (w : World) (B : Nat) : Own w B (.slice none 0 0) [] := World.ownsRow_nil w B _ _

set_option maxHeartbeats 2000000 in
set_option maxRecDepth 100000 in
theorem toksChoice_c (w : World) (g o cap : Nat) (l : List PE) (hx : PEsAt w (some ⟨g, o, none⟩) 0 l) (hl0 : 0 < l.length) (hl1 : l.length ≤ 4194304) (hcap : l.length ≤ cap) (hpos : ∀ e ∈ l, 0 < e.toks.length) (hN : (Jn [[124, 124]] l l.length).length ≤ 4194304) (H : ∀ e ∈ l, ∀ u W, PEAt W e u → Calls Tryz.prog 8 #[peVal e u] W (Toks e.toks W)) :
    Calls Tryz.prog 8 #[.agg #[.string ⟨#[99, 104, 111, 105, 99, 101]⟩, .string ⟨#[]⟩, .int .i64 0, .slice (some ⟨g, o, none⟩) l.length cap]] w (Toks (Jn [[124, 124]] l l.length) w) := by
  have HX := Lib.hid hx
  have HC := Lib.hid H
  have HN := Lib.hid hN
  have HP := Lib.hid hpos
  clear hx H hN hpos
  have d3 : (w.alloc (.cells #[.string ⟨#[99, 104, 111, 105, 99, 101]⟩, .string ⟨#[]⟩, .int .i64 0, .slice (some ⟨g, o, none⟩) l.length cap] 24)).cell? ⟨w.heap.size, 3, none⟩ = some (.slice (some ⟨g, o, none⟩) l.length cap) := (atB_new w #[.string ⟨#[99, 104, 111, 105, 99, 101]⟩, .string ⟨#[]⟩, .int .i64 0, .slice (some ⟨g, o, none⟩) l.length cap] 24).cell 3
  go_enter Tryz.func8, Tryz.ntmps8
  go_wp2_with fail
  go_loopw [3, 114] (fun v3 v114 wr => ∃ j : Nat, j ≤ l.length ∧ v114 = .int .i64 j ∧ Own wr (w.heap.size + 1) v3 (Jn [[124, 124]] l j) ∧ Below (w.heap.size + 1) (w.alloc (.cells #[.string ⟨#[99, 104, 111, 105, 99, 101]⟩, .string ⟨#[]⟩, .int .i64 0, .slice (some ⟨g, o, none⟩) l.length cap] 24)) wr) (fun _ v114 _ => l.length - (intOf v114).toNat)
  case atStart => exact ⟨0, Nat.zero_le _, rfl, own_nil _ _, Below.refl _ _⟩
  case round =>
    obtain ⟨j, hj, rfl, hown, hb⟩ := hrel
    have Hown := Lib.hid hown
    have Hb := Lib.hid hb
    have hat := (box_at hb).1
    have k0 : wr.cell? ⟨w.heap.size, 0, none⟩ = some (.string ⟨#[99, 104, 111, 105, 99, 101]⟩) := hat.cell 0
    by_cases hlt : j < l.length
    · obtain ⟨e', he'⟩ : ∃ e', l[j]? = some e' := ⟨_, List.getElem?_eq_getElem hlt⟩
      have hmem : e' ∈ l := List.mem_of_getElem? he'
      have hpe := HP.out e' hmem
      have hN1 : (Jn [[124, 124]] l (j + 1)).length ≤ 4194304 := Nat.le_trans (Jn_le hlt) HN.out
      have hi0 : (0 : Int) ≤ (j : Int) := by omega
      have hi1 : (j : Int) < (l.length : Int) := by omega
      rcases Nat.eq_zero_or_pos j with h0 | h0
      · subst h0
        have hlen : (Jn [[124, 124]] l 0).length + e'.toks.length ≤ 67108864 := by rw [Jn_one he'] at hN1; simp only [Jn, List.take_zero, List.map_nil, PE.joined, List.length_nil]; omega
        have hs : Jn [[124, 124]] l (0 + 1) = Jn [[124, 124]] l 0 ++ e'.toks := by rw [Jn_one he']; simp [Jn, PE.joined]
        have Hs := Lib.hid hs
        obtain ⟨g1, o1, u, hga, c0, c1, c2, c3, hu⟩ := PEsAt.at (HX.out.below (box_at Hb.out).2.1) he'
        cases hga
        rw [Nat.zero_add, Nat.zero_mul, Nat.add_zero] at c0 c1 c2 c3
        unfold strV at c0 c1
        have d3 : wr.cell? ⟨w.heap.size, 3, none⟩ = some (.slice (some ⟨g, o, none⟩) l.length cap) := ((box_at Hb.out).1.cell 3)
        have Hc := Lib.hid (HC.out e' hmem u wr hu)
        unfold peVal strV at Hc
        clear hu
        clear hs hown hb hat hmem he' hN1
        go_wp2_with fail
        refine Hc.out.mono ?_
        rintro r w1 ⟨v1, rfl, own1, hb1⟩
        obtain ⟨q1, k1, rfl⟩ := own1.slice hpe
        have Ho1 := Lib.hid (Own.below Hown.out hb1)
        have Hp1 := Lib.hid own1
        have Hb1 := Lib.hid (below_on Hb.out (box_at Hb.out).2.2 hb1)
        clear own1 hb1
        go_wp2_with (at_builtin; refine wpList_appn rfl (.tmp 132) (.tmp 138) rfl (w.heap.size + 1) _ (Jn [[124, 124]] l 0) rfl Ho1.out ⟨q1, 0, none⟩ e'.toks e'.toks.length k1 rfl rfl (Own.cells Hp1.out) hpe hlen (box_at Hb1.out).2.2 ?_; intro g3 n3 c3' w3 own3 hb3; have Own3 := Lib.hid own3; have Hb3 := Lib.hid (Hb1.out.trans hb3); clear own3 hb3)
        refine ⟨⟨0 + 1, hlt, by go_num, ?_, Hb3.out⟩, ?_⟩
        · rw [Hs.out]
          exact Own3.out
        · simp [intOf]
          omega
      · have hs := Jn_succ (sep := [[124, 124]]) h0 he'
        have hlen : (Jn [[124, 124]] l j ++ [[124, 124]]).length + e'.toks.length ≤ 67108864 := by rw [hs, List.length_append] at hN1; omega
        have hlen2 : (Jn [[124, 124]] l j).length + 1 ≤ 67108864 := by rw [List.length_append, List.length_cons, List.length_nil] at hlen; omega
        have Hs := Lib.hid hs
        have Hhe := Lib.hid he'
        have Hmem := Lib.hid hmem
        have hj0 : (0 : Int) < (j : Int) := by omega
        clear hs hown hb hat hmem he' hN1
        go_wp2_with (at_builtin; refine wpList_appn rfl (.tmp 124) (.tmp 125) rfl (w.heap.size + 1) _ (Jn [[124, 124]] l j) rfl (Own.below Hown.out ((Below.refl _ _).alloc (Nat.le_refl _) _)) ⟨wr.heap.size, 0, none⟩ [[124, 124]] 1 1 rfl rfl (cells_new wr #[.string ⟨#[124, 124]⟩] 9) (by decide) hlen2 (by have := (box_at Hb.out).2.2; simp; omega) ?_; intro g2 n2 c2' w2 own2 hb2; have Own2 := Lib.hid own2; have Hb2 := Lib.hid ((Hb.out.alloc (box_at Hb.out).2.2 _).trans hb2); clear own2 hb2; obtain ⟨g1, o1, u, hga, c0, c1, c2, c3, hu⟩ := PEsAt.at (HX.out.below (box_at Hb2.out).2.1) Hhe.out; cases hga; rw [Nat.zero_add] at c0 c1 c2 c3; unfold strV at c0 c1; have d3 : w2.cell? ⟨w.heap.size, 3, none⟩ = some (.slice (some ⟨g, o, none⟩) l.length cap) := ((box_at Hb2.out).1.cell 3); have Hc := Lib.hid (HC.out e' Hmem.out u w2 hu); unfold peVal strV at Hc; clear hu)
        refine Hc.out.mono ?_
        rintro r w1 ⟨v1, rfl, own1, hb1⟩
        obtain ⟨q1, k1, rfl⟩ := own1.slice hpe
        have Ho1 := Lib.hid (Own.below Own2.out hb1)
        have Hp1 := Lib.hid own1
        have Hb1 := Lib.hid (below_on Hb2.out (box_at Hb2.out).2.2 hb1)
        clear own1 hb1
        go_wp2_with (at_builtin; refine wpList_appn rfl (.tmp 132) (.tmp 138) rfl (w.heap.size + 1) _ (Jn [[124, 124]] l j ++ [[124, 124]]) rfl Ho1.out ⟨q1, 0, none⟩ e'.toks e'.toks.length k1 rfl rfl (Own.cells Hp1.out) hpe hlen (box_at Hb1.out).2.2 ?_; intro g3 n3 c3' w3 own3 hb3; have Own3 := Lib.hid own3; have Hb3 := Lib.hid (Hb1.out.trans hb3); clear own3 hb3)
        refine ⟨⟨j + 1, hlt, by go_num, ?_, Hb3.out⟩, ?_⟩
        · rw [Hs.out]
          exact Own3.out
        · simp [intOf]
          omega
    · have ej : j = l.length := by omega
      subst ej
      have hJ := Jn_pos (sep := [[124, 124]]) HP.out hl0 hl0
      obtain ⟨q, k, rfl⟩ := hown.slice hJ
      have hN := HN.out
      clear hown hb hat
      go_wp2_with fail
      go_ret
      exact ⟨_, rfl, Hown.out.base (by omega), (box_at Hb.out).2.1⟩

set_option maxHeartbeats 2000000 in
set_option maxRecDepth 100000 in
theorem toksNodes_c (w : World) (g o cap : Nat) (l : List PE) (hx : PEsAt w (some ⟨g, o, none⟩) 0 l) (hl0 : 0 < l.length) (hl1 : l.length ≤ 4194304) (hcap : l.length ≤ cap) (hpos : ∀ e ∈ l, 0 < e.toks.length) (hN : (Jn [[63, 63]] l l.length).length ≤ 4194304) (H : ∀ e ∈ l, ∀ u W, PEAt W e u → Calls Tryz.prog 8 #[peVal e u] W (Toks e.toks W)) :
    Calls Tryz.prog 8 #[.agg #[.string ⟨#[110, 111, 100, 101, 115]⟩, .string ⟨#[]⟩, .int .i64 0, .slice (some ⟨g, o, none⟩) l.length cap]] w (Toks ([[40]] ++ Jn [[63, 63]] l l.length ++ [[41]]) w) := by
  have HX := Lib.hid hx
  have HC := Lib.hid H
  have HN := Lib.hid hN
  have HP := Lib.hid hpos
  clear hx H hN hpos
  have d3 : (w.alloc (.cells #[.string ⟨#[110, 111, 100, 101, 115]⟩, .string ⟨#[]⟩, .int .i64 0, .slice (some ⟨g, o, none⟩) l.length cap] 24)).cell? ⟨w.heap.size, 3, none⟩ = some (.slice (some ⟨g, o, none⟩) l.length cap) := (atB_new w #[.string ⟨#[110, 111, 100, 101, 115]⟩, .string ⟨#[]⟩, .int .i64 0, .slice (some ⟨g, o, none⟩) l.length cap] 24).cell 3
  go_enter Tryz.func8, Tryz.ntmps8
  go_wp2_with fail
  go_loopw [3, 114] (fun v3 v114 wr => ∃ j : Nat, j ≤ l.length ∧ v114 = .int .i64 j ∧ Own wr (w.heap.size + 1) v3 (Jn [[63, 63]] l j) ∧ Below (w.heap.size + 1) (w.alloc (.cells #[.string ⟨#[110, 111, 100, 101, 115]⟩, .string ⟨#[]⟩, .int .i64 0, .slice (some ⟨g, o, none⟩) l.length cap] 24)) wr) (fun _ v114 _ => l.length - (intOf v114).toNat)
  case atStart => exact ⟨0, Nat.zero_le _, rfl, own_nil _ _, Below.refl _ _⟩
  case round =>
    obtain ⟨j, hj, rfl, hown, hb⟩ := hrel
    have Hown := Lib.hid hown
    have Hb := Lib.hid hb
    have hat := (box_at hb).1
    have k0 : wr.cell? ⟨w.heap.size, 0, none⟩ = some (.string ⟨#[110, 111, 100, 101, 115]⟩) := hat.cell 0
    by_cases hlt : j < l.length
    · obtain ⟨e', he'⟩ : ∃ e', l[j]? = some e' := ⟨_, List.getElem?_eq_getElem hlt⟩
      have hmem : e' ∈ l := List.mem_of_getElem? he'
      have hpe := HP.out e' hmem
      have hN1 : (Jn [[63, 63]] l (j + 1)).length ≤ 4194304 := Nat.le_trans (Jn_le hlt) HN.out
      have hi0 : (0 : Int) ≤ (j : Int) := by omega
      have hi1 : (j : Int) < (l.length : Int) := by omega
      rcases Nat.eq_zero_or_pos j with h0 | h0
      · subst h0
        have hlen : (Jn [[63, 63]] l 0).length + e'.toks.length ≤ 67108864 := by rw [Jn_one he'] at hN1; simp only [Jn, List.take_zero, List.map_nil, PE.joined, List.length_nil]; omega
        have hs : Jn [[63, 63]] l (0 + 1) = Jn [[63, 63]] l 0 ++ e'.toks := by rw [Jn_one he']; simp [Jn, PE.joined]
        have Hs := Lib.hid hs
        obtain ⟨g1, o1, u, hga, c0, c1, c2, c3, hu⟩ := PEsAt.at (HX.out.below (box_at Hb.out).2.1) he'
        cases hga
        rw [Nat.zero_add, Nat.zero_mul, Nat.add_zero] at c0 c1 c2 c3
        unfold strV at c0 c1
        have d3 : wr.cell? ⟨w.heap.size, 3, none⟩ = some (.slice (some ⟨g, o, none⟩) l.length cap) := ((box_at Hb.out).1.cell 3)
        have Hc := Lib.hid (HC.out e' hmem u wr hu)
        unfold peVal strV at Hc
        clear hu
        clear hs hown hb hat hmem he' hN1
        go_wp2_with fail
        refine Hc.out.mono ?_
        rintro r w1 ⟨v1, rfl, own1, hb1⟩
        obtain ⟨q1, k1, rfl⟩ := own1.slice hpe
        have Ho1 := Lib.hid (Own.below Hown.out hb1)
        have Hp1 := Lib.hid own1
        have Hb1 := Lib.hid (below_on Hb.out (box_at Hb.out).2.2 hb1)
        clear own1 hb1
        go_wp2_with (at_builtin; refine wpList_appn rfl (.tmp 132) (.tmp 138) rfl (w.heap.size + 1) _ (Jn [[63, 63]] l 0) rfl Ho1.out ⟨q1, 0, none⟩ e'.toks e'.toks.length k1 rfl rfl (Own.cells Hp1.out) hpe hlen (box_at Hb1.out).2.2 ?_; intro g3 n3 c3' w3 own3 hb3; have Own3 := Lib.hid own3; have Hb3 := Lib.hid (Hb1.out.trans hb3); clear own3 hb3)
        refine ⟨⟨0 + 1, hlt, by go_num, ?_, Hb3.out⟩, ?_⟩
        · rw [Hs.out]
          exact Own3.out
        · simp [intOf]
          omega
      · have hs := Jn_succ (sep := [[63, 63]]) h0 he'
        have hlen : (Jn [[63, 63]] l j ++ [[63, 63]]).length + e'.toks.length ≤ 67108864 := by rw [hs, List.length_append] at hN1; omega
        have hlen2 : (Jn [[63, 63]] l j).length + 1 ≤ 67108864 := by rw [List.length_append, List.length_cons, List.length_nil] at hlen; omega
        have Hs := Lib.hid hs
        have Hhe := Lib.hid he'
        have Hmem := Lib.hid hmem
        have hj0 : (0 : Int) < (j : Int) := by omega
        clear hs hown hb hat hmem he' hN1
        go_wp2_with (at_builtin; refine wpList_appn rfl (.tmp 129) (.tmp 130) rfl (w.heap.size + 1) _ (Jn [[63, 63]] l j) rfl (Own.below Hown.out ((Below.refl _ _).alloc (Nat.le_refl _) _)) ⟨wr.heap.size, 0, none⟩ [[63, 63]] 1 1 rfl rfl (cells_new wr #[.string ⟨#[63, 63]⟩] 9) (by decide) hlen2 (by have := (box_at Hb.out).2.2; simp; omega) ?_; intro g2 n2 c2' w2 own2 hb2; have Own2 := Lib.hid own2; have Hb2 := Lib.hid ((Hb.out.alloc (box_at Hb.out).2.2 _).trans hb2); clear own2 hb2; obtain ⟨g1, o1, u, hga, c0, c1, c2, c3, hu⟩ := PEsAt.at (HX.out.below (box_at Hb2.out).2.1) Hhe.out; cases hga; rw [Nat.zero_add] at c0 c1 c2 c3; unfold strV at c0 c1; have d3 : w2.cell? ⟨w.heap.size, 3, none⟩ = some (.slice (some ⟨g, o, none⟩) l.length cap) := ((box_at Hb2.out).1.cell 3); have Hc := Lib.hid (HC.out e' Hmem.out u w2 hu); unfold peVal strV at Hc; clear hu)
        refine Hc.out.mono ?_
        rintro r w1 ⟨v1, rfl, own1, hb1⟩
        obtain ⟨q1, k1, rfl⟩ := own1.slice hpe
        have Ho1 := Lib.hid (Own.below Own2.out hb1)
        have Hp1 := Lib.hid own1
        have Hb1 := Lib.hid (below_on Hb2.out (box_at Hb2.out).2.2 hb1)
        clear own1 hb1
        go_wp2_with (at_builtin; refine wpList_appn rfl (.tmp 132) (.tmp 138) rfl (w.heap.size + 1) _ (Jn [[63, 63]] l j ++ [[63, 63]]) rfl Ho1.out ⟨q1, 0, none⟩ e'.toks e'.toks.length k1 rfl rfl (Own.cells Hp1.out) hpe hlen (box_at Hb1.out).2.2 ?_; intro g3 n3 c3' w3 own3 hb3; have Own3 := Lib.hid own3; have Hb3 := Lib.hid (Hb1.out.trans hb3); clear own3 hb3)
        refine ⟨⟨j + 1, hlt, by go_num, ?_, Hb3.out⟩, ?_⟩
        · rw [Hs.out]
          exact Own3.out
        · simp [intOf]
          omega
    · have ej : j = l.length := by omega
      subst ej
      have hJ := Jn_pos (sep := [[63, 63]]) HP.out hl0 hl0
      obtain ⟨q, k, rfl⟩ := hown.slice hJ
      have hN := HN.out
      clear hown hb hat
      go_wp2_with (first | (at_builtin; refine wpList_appn rfl (.tmp 144) (.tmp 145) rfl (w.heap.size + 1) _ [[40]] rfl (own_new wr (w.heap.size + 1) wr.heap.size [[40]] rfl (box_at Hb.out).2.2 (by decide)) ⟨q, 0, none⟩ (Jn [[63, 63]] l l.length) (Jn [[63, 63]] l l.length).length k rfl rfl (Own.cells (Own.below Hown.out ((Below.refl _ _).alloc (Nat.le_refl _) _))) hJ (by simp; omega) (by have := (box_at Hb.out).2.2; simp; omega) ?_; intro g2 n2 c2' w2 own2 hb2; have Own2 := Lib.hid own2; have Hb2 := Lib.hid ((Hb.out.alloc (box_at Hb.out).2.2 _).trans hb2); clear own2 hb2) | (at_builtin; refine wpList_appn rfl (.tmp 146) (.tmp 147) rfl (w.heap.size + 1) _ ([[40]] ++ Jn [[63, 63]] l l.length) rfl (Own.below Own2.out ((Below.refl _ _).alloc (Nat.le_refl _) _)) ⟨w2.heap.size, 0, none⟩ [[41]] 1 1 rfl rfl (cells_new w2 #[.string ⟨#[41]⟩] 9) (by decide) (by simp; omega) (by have := (box_at Hb2.out).2.2; simp; omega) ?_; intro g3 n3 c3' w3 own3 hb3; have Own3 := Lib.hid own3; have Hb3 := Lib.hid ((Hb2.out.alloc (box_at Hb2.out).2.2 _).trans hb3); clear own3 hb3))
      go_ret
      exact ⟨_, rfl, Own3.out.base (by omega), (box_at Hb3.out).2.1⟩
end Go.Proofs.YthpianlilipggaaGreatDoor
