/- The law's tokens at a choice by a condition. Condition: at most 2^22 tokens a part. -/
import Derived.Test.YthpianlilipggaaGreatDoorXi
namespace Go.Proofs.YthpianlilipggaaGreatDoor
open Go.RowKit Go.PlainAid

theorem box_at {w W : World} {C : Array Value} {T : TypeId} (hb : Below (w.heap.size + 1) (w.alloc (.cells C T)) W) : AtB W w.heap.size T C ∧ Below w.heap.size w W ∧ w.heap.size + 1 ≤ W.heap.size := by
  have e : (w.alloc (.cells C T)).heap.size = w.heap.size + 1 := by simp
  refine ⟨(atB_new w C T).below (by rw [e]; exact hb), ((Below.refl w.heap.size w).alloc (Nat.le_refl _) _).trans (hb.mono (by omega)), ?_⟩
  have := hb.size
  omega
/-- APPEND, the length unsaid. -/
theorem wpList_appn {w : World} {ops : Array Oper} {rest : List Oper} {o : Oper} {a : Act} {Q : Exit → Act → World → Prop} (hgd : o.guard = none) (s x : Operand) (ho : o.op = .call { callee := .builtin .append, args := #[s, x], argTypes := #[29, 29] })
    (B : Nat) (v : Value) (ts : List Bs) (hs : a.eval s = v) (hown : Own w B v ts) (ad : Addr) (us : List Bs) (m c : Nat) (hx : a.eval x = .slice (some ad) m c) (hm : us.length = m) (hnews : ∀ (j : Nat) (u : Value), (us.map strV)[j]? = some u → w.cell? (ad.add j) = some u)
    (h0 : 0 < us.length) (hN : ts.length + us.length ≤ 67108864) (hB : B ≤ w.heap.size)
    (h : ∀ g n cap w', Own w' B (.slice (some ⟨g, 0, none⟩) n cap) (ts ++ us) → Below B w w' → wpList Tryz.prog ops Q rest (a.put o.dst (.slice (some ⟨g, 0, none⟩) n cap)) w') : wpList Tryz.prog ops Q (o :: rest) a w :=
  wpList_app hgd s x ho B v ts hs hown ad us m c hx hm hnews h0 hN hB fun g cap w' => h g _ cap w'
theorem step_appn {w : World} {ops : Array Oper} {o : Oper} {a : Act} {K : Act → World → Prop} {Q : Exit → Act → World → Prop} {E : Prop} (hgd : o.guard = none) (s x : Operand) (ho : o.op = .call { callee := .builtin .append, args := #[s, x], argTypes := #[29, 29] })
    (B : Nat) (v : Value) (ts : List Bs) (hs : a.eval s = v) (hown : Own w B v ts) (ad : Addr) (us : List Bs) (m c : Nat) (hx : a.eval x = .slice (some ad) m c) (hm : us.length = m) (hnews : ∀ (j : Nat) (u : Value), (us.map strV)[j]? = some u → w.cell? (ad.add j) = some u)
    (h0 : 0 < us.length) (hN : ts.length + us.length ≤ 67108864) (hB : B ≤ w.heap.size)
    (h : ∀ g n cap w', Own w' B (.slice (some ⟨g, 0, none⟩) n cap) (ts ++ us) → Below B w w' → K (a.put o.dst (.slice (some ⟨g, 0, none⟩) n cap)) w') : if Region.wanted o (yielded ops a.tmps) = true then Oper.wp Tryz.prog o a w K Q else E :=
  step_app hgd s x ho B v ts hs hown ad us m c hx hm hnews h0 hN hB fun g cap w' => h g _ cap w'

set_option maxHeartbeats 2000000 in
set_option maxRecDepth 100000 in
theorem toksIf_c (w : World) (g o cap : Nat) (x0 : PE) (u0 : Value) (hx0 : PartAt w g (o) x0 u0) (t0 : List Bs) (hp0 : 0 < t0.length) (hl0 : t0.length ≤ 4194304) (H0 : ∀ W, Below w.heap.size w W → Calls Tryz.prog 8 #[peVal x0 u0] W (Toks t0 W)) (x1 : PE) (u1 : Value) (hx1 : PartAt w g (o + 4) x1 u1) (t1 : List Bs) (hp1 : 0 < t1.length) (hl1 : t1.length ≤ 4194304) (H1 : ∀ W, Below w.heap.size w W → Calls Tryz.prog 8 #[peVal x1 u1] W (Toks t1 W)) (x2 : PE) (u2 : Value) (hx2 : PartAt w g (o + 8) x2 u2) (t2 : List Bs) (hp2 : 0 < t2.length) (hl2 : t2.length ≤ 4194304) (H2 : ∀ W, Below w.heap.size w W → Calls Tryz.prog 8 #[peVal x2 u2] W (Toks t2 W)) :
    Calls Tryz.prog 8 #[.agg #[.string ⟨#[105, 102]⟩, .string ⟨#[]⟩, .int .i64 0, .slice (some ⟨g, o, none⟩) 3 cap]] w (Toks ([[40]] ++ t0 ++ [[63]] ++ t1 ++ [[58]] ++ t2 ++ [[41]]) w) := by
  have HX0 := Lib.hid hx0
  have HC0 := Lib.hid H0
  have HX1 := Lib.hid hx1
  have HC1 := Lib.hid H1
  have HX2 := Lib.hid hx2
  have HC2 := Lib.hid H2
  have hn := atB_new w #[.string ⟨#[105, 102]⟩, .string ⟨#[]⟩, .int .i64 0, .slice (some ⟨g, o, none⟩) 3 cap] 24
  have hbl := (Below.refl w.heap.size w).alloc (Nat.le_refl _) (.cells #[.string ⟨#[105, 102]⟩, .string ⟨#[]⟩, .int .i64 0, .slice (some ⟨g, o, none⟩) 3 cap] 24)
  have Hn := Lib.hid (And.intro hn hbl)
  unfold peVal strV at HC0 HC1 HC2
  obtain ⟨a00, a01, a02, a03⟩ := hx0
  unfold strV at a00 a01
  obtain ⟨a10, a11, a12, a13⟩ := hx1
  unfold strV at a10 a11
  obtain ⟨a20, a21, a22, a23⟩ := hx2
  unfold strV at a20 a21
  have hlt := cell_lt a00
  clear hn hbl H0 H1 H2
  go_enter Tryz.func8, Tryz.ntmps8
  have hO := own_new (w.alloc (.cells #[.string ⟨#[105, 102]⟩, .string ⟨#[]⟩, .int .i64 0, .slice (some ⟨g, o, none⟩) 3 cap] 24)) (w.heap.size + 1) (w.heap.size + 1) [[40]] (by simp) (by simp) (by decide)
  have hB1 : Below (w.heap.size + 1) (w.alloc (.cells #[.string ⟨#[105, 102]⟩, .string ⟨#[]⟩, .int .i64 0, .slice (some ⟨g, o, none⟩) 3 cap] 24)) ((w.alloc (.cells #[.string ⟨#[105, 102]⟩, .string ⟨#[]⟩, .int .i64 0, .slice (some ⟨g, o, none⟩) 3 cap] 24)).alloc (.cells (([[40]] : List Bs).map strV).toArray 9)) := (Below.refl _ _).alloc (by simp) _
  have HO := Lib.hid hO
  have HB := Lib.hid hB1
  clear hO hB1
  go_wp2_with fail
  refine (HC0.out _ (box_at HB.out).2.1).mono ?_
  rintro r w1 ⟨v0, rfl, own0, hb0⟩
  obtain ⟨q0, k0, rfl⟩ := own0.slice hp0
  have How1 := Lib.hid (Own.below HO.out hb0)
  have Hpw1 := Lib.hid own0
  have Hbw1 := Lib.hid (HB.out.trans (hb0.mono (box_at HB.out).2.2))
  clear own0 hb0
  go_wp2_with (first | (at_builtin; refine wpList_appn rfl (.tmp 84) (.tmp 89) rfl (w.heap.size + 1) _ [[40]] rfl How1.out ⟨q0, 0, none⟩ t0 t0.length k0 rfl rfl (Own.cells Hpw1.out) hp0 (by simp; omega) (box_at Hbw1.out).2.2 ?_; intro gw2 nw2 cw2 w2 ownw2 hbw2; have Ownw2 := Lib.hid ownw2; have Hbw2 := Lib.hid (Hbw1.out.trans hbw2); clear ownw2 hbw2) | (at_builtin; refine wpList_appn rfl (.tmp 90) (.tmp 91) rfl (w.heap.size + 1) _ ([[40]] ++ t0) rfl (Own.below Ownw2.out ((Below.refl _ _).alloc (Nat.le_refl _) _)) ⟨w2.heap.size, 0, none⟩ [[63]] 1 1 rfl rfl (cells_new w2 #[.string ⟨#[63]⟩] 9) (by decide) (by simp; omega) (by have := (box_at Hbw2.out).2.2; simp; omega) ?_; intro gw3 nw3 cw3 w3 ownw3 hbw3; have Ownw3 := Lib.hid ownw3; have Hbw3 := Lib.hid ((Hbw2.out.alloc (box_at Hbw2.out).2.2 _).trans hbw3); clear ownw3 hbw3; have dw3 : w3.cell? ⟨w.heap.size, 3, none⟩ = some (.slice (some ⟨g, o, none⟩) 3 cap) := ((box_at Hbw3.out).1.cell 3); obtain ⟨bw30, bw31, bw32, bw33⟩ := HX1.out.below (box_at Hbw3.out).2.1; unfold strV at bw30 bw31))
  refine (HC1.out _ (box_at Hbw3.out).2.1).mono ?_
  rintro r w4 ⟨v1, rfl, own1, hb1⟩
  obtain ⟨q1, k1, rfl⟩ := own1.slice hp1
  have How4 := Lib.hid (Own.below Ownw3.out hb1)
  have Hpw4 := Lib.hid own1
  have Hbw4 := Lib.hid (Hbw3.out.trans (hb1.mono (box_at Hbw3.out).2.2))
  clear own1 hb1
  go_wp2_with (first | (at_builtin; refine wpList_appn rfl (.tmp 93) (.tmp 98) rfl (w.heap.size + 1) _ ([[40]] ++ t0 ++ [[63]]) rfl How4.out ⟨q1, 0, none⟩ t1 t1.length k1 rfl rfl (Own.cells Hpw4.out) hp1 (by simp; omega) (box_at Hbw4.out).2.2 ?_; intro gw5 nw5 cw5 w5 ownw5 hbw5; have Ownw5 := Lib.hid ownw5; have Hbw5 := Lib.hid (Hbw4.out.trans hbw5); clear ownw5 hbw5) | (at_builtin; refine wpList_appn rfl (.tmp 99) (.tmp 100) rfl (w.heap.size + 1) _ ([[40]] ++ t0 ++ [[63]] ++ t1) rfl (Own.below Ownw5.out ((Below.refl _ _).alloc (Nat.le_refl _) _)) ⟨w5.heap.size, 0, none⟩ [[58]] 1 1 rfl rfl (cells_new w5 #[.string ⟨#[58]⟩] 9) (by decide) (by simp; omega) (by have := (box_at Hbw5.out).2.2; simp; omega) ?_; intro gw6 nw6 cw6 w6 ownw6 hbw6; have Ownw6 := Lib.hid ownw6; have Hbw6 := Lib.hid ((Hbw5.out.alloc (box_at Hbw5.out).2.2 _).trans hbw6); clear ownw6 hbw6; have dw6 : w6.cell? ⟨w.heap.size, 3, none⟩ = some (.slice (some ⟨g, o, none⟩) 3 cap) := ((box_at Hbw6.out).1.cell 3); obtain ⟨bw60, bw61, bw62, bw63⟩ := HX2.out.below (box_at Hbw6.out).2.1; unfold strV at bw60 bw61))
  refine (HC2.out _ (box_at Hbw6.out).2.1).mono ?_
  rintro r w7 ⟨v2, rfl, own2, hb2⟩
  obtain ⟨q2, k2, rfl⟩ := own2.slice hp2
  have How7 := Lib.hid (Own.below Ownw6.out hb2)
  have Hpw7 := Lib.hid own2
  have Hbw7 := Lib.hid (Hbw6.out.trans (hb2.mono (box_at Hbw6.out).2.2))
  clear own2 hb2
  go_wp2_with (first | (at_builtin; refine wpList_appn rfl (.tmp 102) (.tmp 107) rfl (w.heap.size + 1) _ ([[40]] ++ t0 ++ [[63]] ++ t1 ++ [[58]]) rfl How7.out ⟨q2, 0, none⟩ t2 t2.length k2 rfl rfl (Own.cells Hpw7.out) hp2 (by simp; omega) (box_at Hbw7.out).2.2 ?_; intro gw8 nw8 cw8 w8 ownw8 hbw8; have Ownw8 := Lib.hid ownw8; have Hbw8 := Lib.hid (Hbw7.out.trans hbw8); clear ownw8 hbw8) | (at_builtin; refine wpList_appn rfl (.tmp 108) (.tmp 109) rfl (w.heap.size + 1) _ ([[40]] ++ t0 ++ [[63]] ++ t1 ++ [[58]] ++ t2) rfl (Own.below Ownw8.out ((Below.refl _ _).alloc (Nat.le_refl _) _)) ⟨w8.heap.size, 0, none⟩ [[41]] 1 1 rfl rfl (cells_new w8 #[.string ⟨#[41]⟩] 9) (by decide) (by simp; omega) (by have := (box_at Hbw8.out).2.2; simp; omega) ?_; intro gw9 nw9 cw9 w9 ownw9 hbw9; have Ownw9 := Lib.hid ownw9; have Hbw9 := Lib.hid ((Hbw8.out.alloc (box_at Hbw8.out).2.2 _).trans hbw9); clear ownw9 hbw9))
  go_ret
  exact ⟨_, rfl, Ownw9.out.base (by omega), (box_at Hbw9.out).2.1⟩
end Go.Proofs.YthpianlilipggaaGreatDoor
