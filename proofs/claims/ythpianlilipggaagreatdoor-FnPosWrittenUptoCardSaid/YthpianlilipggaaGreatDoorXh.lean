/- The law's rows of tokens: rows of texts that grow; a numeral's digits. Condition: at most 2^26 tokens. -/
import Derived.Test.YthpianlilipggaaGreatDoorVy
namespace Go.Proofs.YthpianlilipggaaGreatDoor
open Go.RowKit Go.PlainAid

/-- The value v is a row of these texts, in a block of the call's own. -/
def Own (w : World) (B : Nat) (v : Value) (ts : List Bs) : Prop := w.ownsRow B 9 1 v ts.length (ts.map strV)
section
variable {w w' : World} {B B' : Nat} {v : Value} {ts : List Bs}
theorem Own.below (h : Own w B v ts) (hb : Below w.heap.size w w') : Own w' B v ts := own_below h hb
theorem Own.base (h : Own w B v ts) (hB : B' ≤ B) : Own w B' v ts := by
  refine ⟨h.1, ?_⟩
  rcases h.2 with k | ⟨g, cap, cur, hv, hg, r⟩
  · exact Or.inl k
  · exact Or.inr ⟨g, cap, cur, hv, Nat.le_trans hB hg, r⟩
theorem Own.cells {g n cap : Nat} (h : Own w B (.slice (some ⟨g, 0, none⟩) n cap) ts) : ∀ (j : Nat) (u : Value), (ts.map strV)[j]? = some u → w.cell? ((⟨g, 0, none⟩ : Addr).add j) = some u := by
  intro j u hu
  exact World.ownsRow.cells h rfl j u hu
theorem Own.slice (h : Own w B v ts) (h0 : 0 < ts.length) : ∃ g cap, v = .slice (some ⟨g, 0, none⟩) ts.length cap := own_slice h h0
end
theorem own_new (w : World) (B H : Nat) (ts : List Bs) (hH : w.heap.size = H) (h : B ≤ w.heap.size) (h63 : ts.length ≤ 67108864) : Own (w.alloc (.cells (ts.map strV).toArray 9)) B (.slice (some ⟨H, 0, none⟩) ts.length ts.length) ts := by
  subst hH
  refine ⟨by simp, Or.inr ⟨_, ts.length, (ts.map strV).toArray, rfl, h, by show (w.heap.push _)[w.heap.size]? = _; simp, Nat.le_refl _, by unfold maxLen; omega, by simp, by rw [List.take_of_length_le (by simp)]⟩⟩
/-- APPEND, as the walk meets it. -/
theorem wpList_app {w : World} {ops : Array Oper} {rest : List Oper} {o : Oper} {a : Act} {Q : Exit → Act → World → Prop} (hgd : o.guard = none) (s x : Operand) (ho : o.op = .call { callee := .builtin .append, args := #[s, x], argTypes := #[29, 29] })
    (B : Nat) (v : Value) (ts : List Bs) (hs : a.eval s = v) (hown : Own w B v ts) (ad : Addr) (us : List Bs) (m c : Nat) (hx : a.eval x = .slice (some ad) m c) (hm : us.length = m) (hnews : ∀ (j : Nat) (u : Value), (us.map strV)[j]? = some u → w.cell? (ad.add j) = some u)
    (h0 : 0 < us.length) (hN : ts.length + us.length ≤ 67108864) (hB : B ≤ w.heap.size)
    (h : ∀ g cap w', Own w' B (.slice (some ⟨g, 0, none⟩) (ts.length + m) cap) (ts ++ us) → Below B w w' → wpList Tryz.prog ops Q rest (a.put o.dst (.slice (some ⟨g, 0, none⟩) (ts.length + m) cap)) w') : wpList Tryz.prog ops Q (o :: rest) a w := by
  obtain ⟨i0, hi, hz0, hz1, hz2⟩ := info_parts infoStr
  subst hm
  refine wpList_append_lies _ hgd s x 29 ho B 9 i0 (.string ⟨#[]⟩) 1 16 Tryz.underlying29 hi hz0 hz1 hz2 rfl (by decide) v ts.length (ts.map strV) hs hown ad us.length c (us.map strV) hx (by simp) hnews (by intro u hu; obtain ⟨t, _, rfl⟩ := List.mem_map.1 hu; rfl) h0 (by unfold maxLen; omega) (by omega) hB _ rfl ?_
  intro g cap w' hown' hgr _ _
  refine h g cap w' (by unfold Own; rw [List.length_append, List.map_append]; exact hown') ?_
  exact (Below.refl B w).grown hgr hB fun q hq => (World.ownsRow.lt hown q hq).1
theorem step_app {w : World} {ops : Array Oper} {o : Oper} {a : Act} {K : Act → World → Prop} {Q : Exit → Act → World → Prop} {E : Prop} (hgd : o.guard = none) (s x : Operand) (ho : o.op = .call { callee := .builtin .append, args := #[s, x], argTypes := #[29, 29] })
    (B : Nat) (v : Value) (ts : List Bs) (hs : a.eval s = v) (hown : Own w B v ts) (ad : Addr) (us : List Bs) (m c : Nat) (hx : a.eval x = .slice (some ad) m c) (hm : us.length = m) (hnews : ∀ (j : Nat) (u : Value), (us.map strV)[j]? = some u → w.cell? (ad.add j) = some u)
    (h0 : 0 < us.length) (hN : ts.length + us.length ≤ 67108864) (hB : B ≤ w.heap.size)
    (h : ∀ g cap w', Own w' B (.slice (some ⟨g, 0, none⟩) (ts.length + m) cap) (ts ++ us) → Below B w w' → K (a.put o.dst (.slice (some ⟨g, 0, none⟩) (ts.length + m) cap)) w') : if Region.wanted o (yielded ops a.tmps) = true then Oper.wp Tryz.prog o a w K Q else E := by
  obtain ⟨i0, hi, hz0, hz1, hz2⟩ := info_parts infoStr
  subst hm
  refine step_append_lies _ hgd s x 29 ho B 9 i0 (.string ⟨#[]⟩) 1 16 Tryz.underlying29 hi hz0 hz1 hz2 rfl (by decide) v ts.length (ts.map strV) hs hown ad us.length c (us.map strV) hx (by simp) hnews (by intro u hu; obtain ⟨t, _, rfl⟩ := List.mem_map.1 hu; rfl) h0 (by unfold maxLen; omega) (by omega) hB _ rfl ?_
  intro g cap w' hown' hgr _ _
  refine h g cap w' (by unfold Own; rw [List.length_append, List.map_append]; exact hown') ?_
  exact (Below.refl B w).grown hgr hB fun q hq => (World.ownsRow.lt hown q hq).1

theorem one_conv (w : World) (c : UInt8) : (convert 48 9 (.slice (some ⟨w.heap.size, 0, none⟩) 1 1)).run Tryz.prog (w.alloc (.cells #[.int .u8 (c.toNat : Int)] 5)) = .ok (.string ⟨#[c]⟩) (w.alloc (.cells #[.int .u8 (c.toNat : Int)] 5)) :=
  run_convert_bytes_back (w.alloc (.cells #[.int .u8 (c.toNat : Int)] 5)) 48 9 5 ⟨w.heap.size, 0, none⟩ 1 [c] Tryz.underlying48 Tryz.underlying5 Tryz.underlying9 (fun j hj => by
    have : j = 0 := by simpa using hj
    subst this
    exact cells_new w #[.int .u8 (c.toNat : Int)] 5 0 _ rfl)
set_option maxHeartbeats 4000000 in
set_option maxRecDepth 20000 in
theorem digits_c : ∀ (n : Nat) (z : Int) (w : World), z = (n : Int) → n < 1099511627776 → Calls Tryz.prog 13 #[.int .i64 z] w (Ret (Is (Lib.decDigits n)) w) := by
  intro n
  induction n using Nat.strongRecOn with
  | _ n ih =>
    intro z w hz hn
    subst hz
    by_cases h : n < 10
    · have : n = 0 ∨ n = 1 ∨ n = 2 ∨ n = 3 ∨ n = 4 ∨ n = 5 ∨ n = 6 ∨ n = 7 ∨ n = 8 ∨ n = 9 := by omega
      have e : Lib.decDigits n = [UInt8.ofNat (48 + n)] := by rw [Lib.decDigits, dif_pos h]
      rw [e]
      clear ih e
      rcases this with rfl | rfl | rfl | rfl | rfl | rfl | rfl | rfl | rfl | rfl
      · have hcv : (convert 48 9 (.slice (some ⟨w.heap.size, 0, none⟩) 1 1)).run Tryz.prog (w.alloc (.cells #[.int .u8 48] 5)) = .ok (.string ⟨#[48]⟩) (w.alloc (.cells #[.int .u8 48] 5)) := one_conv w 48
        go_enter Tryz.func13, Tryz.ntmps13
        go_wp2_with fail
        go_ret
        exact ⟨_, rfl, rfl, (Below.refl _ _).alloc (Nat.le_refl _) _⟩
      · have hcv : (convert 48 9 (.slice (some ⟨w.heap.size, 0, none⟩) 1 1)).run Tryz.prog (w.alloc (.cells #[.int .u8 49] 5)) = .ok (.string ⟨#[49]⟩) (w.alloc (.cells #[.int .u8 49] 5)) := one_conv w 49
        go_enter Tryz.func13, Tryz.ntmps13
        go_wp2_with fail
        go_ret
        exact ⟨_, rfl, rfl, (Below.refl _ _).alloc (Nat.le_refl _) _⟩
      · have hcv : (convert 48 9 (.slice (some ⟨w.heap.size, 0, none⟩) 1 1)).run Tryz.prog (w.alloc (.cells #[.int .u8 50] 5)) = .ok (.string ⟨#[50]⟩) (w.alloc (.cells #[.int .u8 50] 5)) := one_conv w 50
        go_enter Tryz.func13, Tryz.ntmps13
        go_wp2_with fail
        go_ret
        exact ⟨_, rfl, rfl, (Below.refl _ _).alloc (Nat.le_refl _) _⟩
      · have hcv : (convert 48 9 (.slice (some ⟨w.heap.size, 0, none⟩) 1 1)).run Tryz.prog (w.alloc (.cells #[.int .u8 51] 5)) = .ok (.string ⟨#[51]⟩) (w.alloc (.cells #[.int .u8 51] 5)) := one_conv w 51
        go_enter Tryz.func13, Tryz.ntmps13
        go_wp2_with fail
        go_ret
        exact ⟨_, rfl, rfl, (Below.refl _ _).alloc (Nat.le_refl _) _⟩
      · have hcv : (convert 48 9 (.slice (some ⟨w.heap.size, 0, none⟩) 1 1)).run Tryz.prog (w.alloc (.cells #[.int .u8 52] 5)) = .ok (.string ⟨#[52]⟩) (w.alloc (.cells #[.int .u8 52] 5)) := one_conv w 52
        go_enter Tryz.func13, Tryz.ntmps13
        go_wp2_with fail
        go_ret
        exact ⟨_, rfl, rfl, (Below.refl _ _).alloc (Nat.le_refl _) _⟩
      · have hcv : (convert 48 9 (.slice (some ⟨w.heap.size, 0, none⟩) 1 1)).run Tryz.prog (w.alloc (.cells #[.int .u8 53] 5)) = .ok (.string ⟨#[53]⟩) (w.alloc (.cells #[.int .u8 53] 5)) := one_conv w 53
        go_enter Tryz.func13, Tryz.ntmps13
        go_wp2_with fail
        go_ret
        exact ⟨_, rfl, rfl, (Below.refl _ _).alloc (Nat.le_refl _) _⟩
      · have hcv : (convert 48 9 (.slice (some ⟨w.heap.size, 0, none⟩) 1 1)).run Tryz.prog (w.alloc (.cells #[.int .u8 54] 5)) = .ok (.string ⟨#[54]⟩) (w.alloc (.cells #[.int .u8 54] 5)) := one_conv w 54
        go_enter Tryz.func13, Tryz.ntmps13
        go_wp2_with fail
        go_ret
        exact ⟨_, rfl, rfl, (Below.refl _ _).alloc (Nat.le_refl _) _⟩
      · have hcv : (convert 48 9 (.slice (some ⟨w.heap.size, 0, none⟩) 1 1)).run Tryz.prog (w.alloc (.cells #[.int .u8 55] 5)) = .ok (.string ⟨#[55]⟩) (w.alloc (.cells #[.int .u8 55] 5)) := one_conv w 55
        go_enter Tryz.func13, Tryz.ntmps13
        go_wp2_with fail
        go_ret
        exact ⟨_, rfl, rfl, (Below.refl _ _).alloc (Nat.le_refl _) _⟩
      · have hcv : (convert 48 9 (.slice (some ⟨w.heap.size, 0, none⟩) 1 1)).run Tryz.prog (w.alloc (.cells #[.int .u8 56] 5)) = .ok (.string ⟨#[56]⟩) (w.alloc (.cells #[.int .u8 56] 5)) := one_conv w 56
        go_enter Tryz.func13, Tryz.ntmps13
        go_wp2_with fail
        go_ret
        exact ⟨_, rfl, rfl, (Below.refl _ _).alloc (Nat.le_refl _) _⟩
      · have hcv : (convert 48 9 (.slice (some ⟨w.heap.size, 0, none⟩) 1 1)).run Tryz.prog (w.alloc (.cells #[.int .u8 57] 5)) = .ok (.string ⟨#[57]⟩) (w.alloc (.cells #[.int .u8 57] 5)) := one_conv w 57
        go_enter Tryz.func13, Tryz.ntmps13
        go_wp2_with fail
        go_ret
        exact ⟨_, rfl, rfl, (Below.refl _ _).alloc (Nat.le_refl _) _⟩
    · have e : Lib.decDigits n = Lib.decDigits (n / 10) ++ Lib.decDigits (n % 10) := by
        rw [Lib.decDigits, dif_neg h]
        congr 1
        rw [Lib.decDigits, dif_pos (by omega)]
      rw [e]
      have l1 := dec_len13 (show n / 10 < 1099511627776 by omega)
      have l2 := dec_len13 (show n % 10 < 1099511627776 by omega)
      have H1 := Lib.hid (fun W => ih (n / 10) (by omega) ((n : Int) / 10) W (by omega) (by omega))
      have H2 := Lib.hid (fun W => ih (n % 10) (by omega) ((n : Int) % 10) W (by omega) (by omega))
      have h10 : ¬ (n : Int) < 10 := by omega
      clear ih e h
      go_enter Tryz.func13, Tryz.ntmps13
      go_wp2_with fail
      refine (H1.out _).mono ?_
      rintro r w1 ⟨s1, rfl, k1, hb1⟩
      have z1 : s1.size ≤ 13 := is_le l1 s1 k1
      have K1 := Lib.hid (And.intro k1 hb1)
      clear k1 hb1
      go_wp2_with fail
      refine (H2.out _).mono ?_
      rintro r w2 ⟨s2, rfl, k2, hb2⟩
      have z2 : s2.size ≤ 13 := is_le l2 s2 k2
      have K2 := Lib.hid (And.intro k2 hb2)
      clear k2 hb2
      go_wp2_with fail
      go_ret
      refine ⟨_, rfl, ?_, K1.out.2.trans (K2.out.2.mono K1.out.2.size)⟩
      rw [Is, show s1 = _ from K1.out.1, show s2 = _ from K2.out.1]
      exact mk_app _ _
end Go.Proofs.YthpianlilipggaaGreatDoor
