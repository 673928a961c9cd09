/- The law's tokens, kind by kind: where the order is the text's. Condition: at most 2^22 tokens a part. -/
import Derived.Test.YthpianlilipggaaGreatDoorXh
namespace Go.Proofs.YthpianlilipggaaGreatDoor
open Go.RowKit Go.PlainAid

/-- These tokens are returned, in a row of the call's own. -/
def Toks (ts : List Bs) (w : World) (r : Ending) (w' : World) : Prop := ∃ v, r = .returned v ∧ Own w' w.heap.size v ts ∧ Below w.heap.size w w'
/-- A part's four cells. -/
def PartAt (w : World) (g o : Nat) (x : PE) (u : Value) : Prop := w.cell? ⟨g, o, none⟩ = some (strV x.kind) ∧ w.cell? ⟨g, o + 1, none⟩ = some (strV x.name) ∧ w.cell? ⟨g, o + 2, none⟩ = some (.int .i64 x.num) ∧ w.cell? ⟨g, o + 3, none⟩ = some u
theorem PartAt.below {w w' : World} {g o : Nat} {x : PE} {u : Value} (h : PartAt w g o x u) (hb : Below w.heap.size w w') : PartAt w' g o x u :=
  ⟨cell_below h.1 hb, cell_below h.2.1 hb, cell_below h.2.2.1 hb, cell_below h.2.2.2 hb⟩
theorem toksVar_c (w : World) (nm : Bs) (z : Int) (a : Option Addr) (n cap : Nat) :
    Calls Tryz.prog 8 #[.agg #[.string ⟨#[118, 97, 114]⟩, .string ⟨nm.toArray⟩, .int .i64 z, .slice a n cap]] w (Toks [nm] w) := by
  have hn := atB_new w #[.string ⟨#[118, 97, 114]⟩, .string ⟨nm.toArray⟩, .int .i64 z, .slice a n cap] 24
  go_enter Tryz.func8, Tryz.ntmps8
  go_wp2_with fail
  go_ret
  refine ⟨_, rfl, own_new (w.alloc (.cells #[.string ⟨#[118, 97, 114]⟩, .string ⟨nm.toArray⟩, .int .i64 z, .slice a n cap] 24)) w.heap.size (w.heap.size + 1) [nm] (by simp) (by simp) (by simp), ((Below.refl _ _).alloc (Nat.le_refl _) _).alloc (by simp) _⟩
set_option maxHeartbeats 1000000 in
theorem toksInt_c (w : World) (s : ByteArray) (hs : s.size ≤ 1048576) (q : Nat) (hq : q < 1099511627776) (a : Option Addr) (n cap : Nat) :
    Calls Tryz.prog 8 #[.agg #[.string ⟨#[105, 110, 116]⟩, .string s, .int .i64 (q : Int), .slice a n cap]] w (Toks [Lib.decDigits q] w) := by
  have Hd := Lib.hid (fun W => digits_c q (q : Int) W rfl hq)
  go_enter Tryz.func8, Tryz.ntmps8
  go_wp2_with fail
  refine (Hd.out _).mono ?_
  rintro r w1 ⟨s1, rfl, k1, hb⟩
  have e : s1 = ⟨(Lib.decDigits q).toArray⟩ := k1
  subst e
  have Hb := Lib.hid (((Below.refl w.heap.size w).alloc (Nat.le_refl _) _).trans (hb.mono (by simp)))
  clear hb k1
  go_wp2_with fail
  go_ret
  exact ⟨_, rfl, own_new w1 w.heap.size w1.heap.size [Lib.decDigits q] rfl Hb.out.size (by simp), Hb.out.alloc Hb.out.size _⟩

set_option maxHeartbeats 2000000 in
set_option maxRecDepth 100000 in
theorem toksLast_c (w : World) (g o cap : Nat) (x0 : PE) (u0 : Value) (hx0 : PartAt w g (o) x0 u0) (t0 : List Bs) (hp0 : 0 < t0.length) (hl0 : t0.length ≤ 4194304) (H0 : ∀ W, Below w.heap.size w W → Calls Tryz.prog 8 #[peVal x0 u0] W (Toks t0 W)) :
    Calls Tryz.prog 8 #[.agg #[.string ⟨#[108, 97, 115, 116]⟩, .string ⟨#[]⟩, .int .i64 0, .slice (some ⟨g, o, none⟩) 1 cap]] w (Toks (t0 ++ [[91], [36], [93]]) w) := by
  have HX0 := Lib.hid hx0
  have HC0 := Lib.hid H0
  have hn := atB_new w #[.string ⟨#[108, 97, 115, 116]⟩, .string ⟨#[]⟩, .int .i64 0, .slice (some ⟨g, o, none⟩) 1 cap] 24
  have hbl := (Below.refl w.heap.size w).alloc (Nat.le_refl _) (.cells #[.string ⟨#[108, 97, 115, 116]⟩, .string ⟨#[]⟩, .int .i64 0, .slice (some ⟨g, o, none⟩) 1 cap] 24)
  have Hn := Lib.hid (And.intro hn hbl)
  unfold peVal strV at HC0
  obtain ⟨a00, a01, a02, a03⟩ := hx0
  unfold strV at a00 a01
  have hlt := cell_lt a00
  clear hn hbl H0
  go_enter Tryz.func8, Tryz.ntmps8
  go_wp2_with fail
  refine (HC0.out _ Hn.out.2).mono ?_
  rintro r w1 ⟨v0, rfl, own0, hb0⟩
  obtain ⟨g0, c0, rfl⟩ := own0.slice hp0
  have Ho := Lib.hid (own0.base (B' := w.heap.size) (by simp))
  have Hb := Lib.hid (Hn.out.2.trans (hb0.mono Hn.out.2.size))
  clear own0 hb0
  go_wp2_with (at_builtin; refine wpList_app rfl (.tmp 68) (.tmp 69) rfl w.heap.size _ t0 rfl (Own.below Ho.out ((Below.refl _ _).alloc (Nat.le_refl _) _)) ⟨w1.heap.size, 0, none⟩ [[91], [36], [93]] 3 3 rfl rfl (cells_new w1 #[.string ⟨#[91]⟩, .string ⟨#[36]⟩, .string ⟨#[93]⟩] 9) (by decide) (by simp; omega) (by have := Hb.out.size; simp; omega) ?_; intro g2 c2 w2 own2 hb2)
  have Hf := Lib.hid (And.intro own2 ((Hb.out.alloc Hb.out.size _).trans hb2))
  clear own2 hb2
  go_ret
  exact ⟨_, rfl, Hf.out.1, Hf.out.2⟩

set_option maxHeartbeats 2000000 in
set_option maxRecDepth 100000 in
theorem toksLen_c (w : World) (g o cap : Nat) (x0 : PE) (u0 : Value) (hx0 : PartAt w g (o) x0 u0) (t0 : List Bs) (hp0 : 0 < t0.length) (hl0 : t0.length ≤ 4194304) (H0 : ∀ W, Below w.heap.size w W → Calls Tryz.prog 8 #[peVal x0 u0] W (Toks t0 W)) :
    Calls Tryz.prog 8 #[.agg #[.string ⟨#[108, 101, 110]⟩, .string ⟨#[]⟩, .int .i64 0, .slice (some ⟨g, o, none⟩) 1 cap]] w (Toks ([kLen, [40]] ++ t0 ++ [[41]]) w) := by
  have HX0 := Lib.hid hx0
  have HC0 := Lib.hid H0
  have hn := atB_new w #[.string ⟨#[108, 101, 110]⟩, .string ⟨#[]⟩, .int .i64 0, .slice (some ⟨g, o, none⟩) 1 cap] 24
  have hbl := (Below.refl w.heap.size w).alloc (Nat.le_refl _) (.cells #[.string ⟨#[108, 101, 110]⟩, .string ⟨#[]⟩, .int .i64 0, .slice (some ⟨g, o, none⟩) 1 cap] 24)
  have Hn := Lib.hid (And.intro hn hbl)
  unfold peVal strV at HC0
  obtain ⟨a00, a01, a02, a03⟩ := hx0
  unfold strV at a00 a01
  have hlt := cell_lt a00
  clear hn hbl H0
  go_enter Tryz.func8, Tryz.ntmps8
  have hO := own_new (w.alloc (.cells #[.string ⟨#[108, 101, 110]⟩, .string ⟨#[]⟩, .int .i64 0, .slice (some ⟨g, o, none⟩) 1 cap] 24)) w.heap.size (w.heap.size + 1) [kLen, [40]] (by simp) (by simp) (by decide)
  have hB1 := Hn.out.2.alloc (o := .cells (([kLen, [40]] : List Bs).map strV).toArray 9) (by simp)
  have HO := Lib.hid (And.intro hO hB1)
  clear hO hB1
  go_wp2_with fail
  refine (HC0.out _ HO.out.2).mono ?_
  rintro r w1 ⟨v0, rfl, own0, hb0⟩
  obtain ⟨g0, c0, rfl⟩ := own0.slice hp0
  have Ho1 := Lib.hid (Own.below HO.out.1 hb0)
  have Ho := Lib.hid own0
  have Hb := Lib.hid (HO.out.2.trans (hb0.mono HO.out.2.size))
  clear own0 hb0
  go_wp2_with (first | (at_builtin; refine wpList_app rfl (.tmp 73) (.tmp 78) rfl w.heap.size _ [kLen, [40]] rfl Ho1.out ⟨g0, 0, none⟩ t0 t0.length c0 rfl rfl (Own.cells Ho.out) hp0 (by simp; omega) Hb.out.size ?_; intro g2 c2 w2 own2 hb2; have Own2 := Lib.hid own2; have Hb2 := Lib.hid (Hb.out.trans hb2); clear own2 hb2) | (at_builtin; refine wpList_app rfl (.tmp 79) (.tmp 80) rfl w.heap.size _ ([kLen, [40]] ++ t0) rfl (Own.below Own2.out ((Below.refl _ _).alloc (Nat.le_refl _) _)) ⟨w2.heap.size, 0, none⟩ [[41]] 1 1 rfl rfl (cells_new w2 #[.string ⟨#[41]⟩] 9) (by decide) (by simp; omega) (by have := Hb2.out.size; simp; omega) ?_; intro g3 c3 w3 own3 hb3; have Own3 := Lib.hid own3; have Hb3 := Lib.hid ((Hb2.out.alloc Hb2.out.size _).trans hb3); clear own3 hb3))
  go_ret
  exact ⟨_, rfl, Own3.out, Hb3.out⟩
end Go.Proofs.YthpianlilipggaaGreatDoor
