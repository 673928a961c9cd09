/- What the language of positions writes: every expression's text as the package writes it, and how long its Go is. Condition: the expression's tokens are at most 2^24 letters; the table of powers holds what it was laid with. -/
import Derived.Test.YthpianlilipggaaGreatDoorVt
namespace Go.Proofs.YthpianlilipggaaGreatDoor
open Go.RowKit Go.PlainAid

theorem sz_mk (l : Bs) : (⟨l.toArray⟩ : ByteArray).size = l.length := by simp [ByteArray.size]
theorem sz_app (a b : ByteArray) : (a ++ b).size = a.size + b.size := ByteArray.size_append
/-- A text that is known. -/
def Is (l : Bs) (s : ByteArray) : Prop := s = ⟨l.toArray⟩
/-- A text that is short. -/
def Sh (n : Nat) (s : ByteArray) : Prop := s.size ≤ n
abbrev Pow (w : World) : Prop := Lib.TabBelow Tryz.prog w.heap.size w "internal/strconv.uint64pow10" .u64 Lib.pow10Tab

section
variable {w : World} {x : ByteArray}
theorem var_unp {k : Nat} {v : Bs} (h : VarAt w k v) : Sp w "Unparse" #[] (.iface 58 (ptr k)) (Is v) :=
  sp_mk0 is_Var_Unparse fun W hW => varUnp_c (h.below hW)
theorem is_le {l : Bs} {n : Nat} (h : l.length ≤ n) : ∀ s, Is l s → s.size ≤ n := fun s hs => by rw [hs, sz_mk]; exact h
theorem var_len {k : Nat} {v : Bs} (hx : x.size ≤ 1) (hv : v.length ≤ 16777216) (h : VarAt w k v) : Sp w "StringExprToGo" #[.string x] (.iface 58 (ptr k)) (Sh (v.length + 2)) :=
  sp_mk1 (is_Var_StringExprToGo _) fun W hW => (varStrGo_c x (by omega) hv (h.below hW)).mono fun e w' k => k.imp fun s e => by
    rw [Sh, e, sz_app, sz_app, sz_mk]
    show x.size + 1 + v.length ≤ _
    omega
theorem var_bool {k : Nat} {v : Bs} (hx : x.size ≤ 1) (hv : v.length ≤ 16777216) (h : VarAt w k v) : Sp w "BoolExprToGo" #[.string x] (.iface 58 (ptr k)) (Sh (v.length + 2)) :=
  sp_mk1 (is_Var_BoolExprToGo _) fun W hW => (varBoolGo_c x (by omega) hv (h.below hW)).mono fun e w' k => k.imp fun s e => by
    rw [Sh, e, sz_app, sz_app, sz_mk]
    show x.size + 1 + v.length ≤ _
    omega
theorem var_slice {k : Nat} {v : Bs} (hx : x.size ≤ 1) (hv : v.length ≤ 16777216) (h : VarAt w k v) : Sp w "NodeSliceExprToGo" #[.string x] (.iface 58 (ptr k)) (Sh (v.length + 2)) :=
  sp_mk1 (is_Var_NodeSliceExprToGo _) fun W hW => (varSliceGo_c x (by omega) hv (h.below hW)).mono fun e w' k => k.imp fun s e => by
    rw [Sh, e, sz_app, sz_app, sz_mk]
    show x.size + 1 + v.length ≤ _
    omega
theorem var_pos {k : Nat} {v : Bs} (hx : x.size ≤ 1) (hv : v.length ≤ 16777216) (h : VarAt w k v) : Sp w "PosExprToGo" #[.string x] (.iface 58 (ptr k)) (Sh (v.length + 2)) :=
  sp_mk1 (is_Var_PosExprToGo _) fun W hW => (varPosGo_c x (by omega) hv (h.below hW)).mono fun e w' k => k.imp fun s e => by
    rw [Sh, e, sz_app, sz_app, sz_mk]
    show x.size + 1 + v.length ≤ _
    omega
theorem var_node {k : Nat} {v : Bs} (hx : x.size ≤ 1) (hv : v.length ≤ 16777216) (h : VarAt w k v) : Sp w "NodeExprToGo" #[.string x] (.iface 58 (ptr k)) (Sh (v.length + 12)) :=
  sp_mk1 (is_Var_NodeExprToGo _) fun W hW => (varNodeGo_c x (by omega) hv (h.below hW)).mono fun e w' k => k.imp fun s e => by
    rw [Sh, e, sz_app, sz_app, sz_app, sz_app, sz_mk]
    show 9 + x.size + 1 + v.length + 1 ≤ _
    omega

theorem ie_unp (hT : Pow w) : ∀ (i : IE) (v : Value), i.ok = true → i.txt.length ≤ 16777216 → IEAt w v i → Sp w "Unparse" #[] v (Is i.unp)
  | .lit n, v, hok, _, h => by
    obtain ⟨k, rfl, h⟩ := h
    have hn : n < 1099511627776 := by simpa [IE.ok] using hok
    exact sp_mk0 is_IntLiteral_Unparse fun W hW => litUnp_c n hn (hT W hW) (h.below hW)
  | .len y, v, _, hl, h => by
    obtain ⟨k, kv, rfl, h, hv⟩ := h
    have hy : y.length ≤ 16777216 := by simp only [IE.txt, List.length_append] at hl; omega
    exact sp_mk0 is_Len_Unparse fun W hW => (lenUnp_c W k _ (Is y) (h.below hW) (is_le (by omega)) ((var_unp hv).below hW)).mono fun e w' k => k.imp fun s ⟨s1, h1, h2⟩ => by
      rw [Is, h2, h1]
      exact (congrArg (· ++ _) (mk_app [108, 101, 110, 40] y)).trans (mk_app _ [41])
  | .ite c t f, v, hok, hl, h => by
    obtain ⟨k, kc, vt, vf, rfl, h, hc, ht, hf⟩ := h
    simp only [IE.ok, Bool.and_eq_true] at hok
    have l1 := IE.unp_le t
    have l2 := IE.unp_le f
    simp only [IE.txt, List.length_append, List.length_cons, List.length_nil] at hl
    have s1 := ie_unp hT t vt hok.1.2 (by omega) ht
    have s2 := ie_unp hT f vf hok.2 (by omega) hf
    exact sp_mk0 is_IfThenElse_Unparse fun W hW => (iteUnp_c W k _ _ _ (Is c) (Is t.unp) (Is f.unp) (h.below hW) (is_le (by omega)) (is_le (by omega)) (is_le (by omega)) ((var_unp hc).below hW) (s1.below hW) (s2.below hW)).mono fun e w' k => k.imp fun s ⟨s1, s2, s3, h1, h2, h3, h4⟩ => by
      rw [Is, h4, h1, h2, h3]
      exact ((congrArg (· ++ _) ((congrArg (· ++ _) ((congrArg (· ++ _) ((congrArg (· ++ _) ((congrArg (· ++ _) (mk_app [40] c)).trans (mk_app _ [32, 63, 32]))).trans (mk_app _ _))).trans (mk_app _ [32, 58, 32]))).trans (mk_app _ _))).trans (mk_app _ [41]))
theorem sh_le {n m : Nat} (h : n ≤ m) : ∀ s, Sh n s → s.size ≤ m := fun _ hs => Nat.le_trans hs h
theorem ie_go (hT : Pow w) (hx : x.size ≤ 1) : ∀ (i : IE) (v : Value), i.ok = true → i.txt.length ≤ 16777216 → IEAt w v i → Sp w "IntExprToGo" #[.string x] v (Sh (40 * i.txt.length))
  | .lit n, v, hok, _, h => by
    obtain ⟨k, rfl, h⟩ := h
    have hn : n < 1099511627776 := by simpa [IE.ok] using hok
    exact sp_mk1 (is_IntLiteral_IntExprToGo _) fun W hW => (litGo_c x n hn (hT W hW) (h.below hW)).mono fun e w' k => k.imp fun s e => by
      rw [Sh, e, sz_mk]
      simp only [IE.txt]
      omega
  | .len y, v, _, hl, h => by
    obtain ⟨k, kv, rfl, h, hv⟩ := h
    simp only [IE.txt, List.length_append, List.length_cons, List.length_nil] at hl ⊢
    exact sp_mk1 (is_Len_IntExprToGo _) fun W hW => (lenGo_c W k x _ (Sh (y.length + 2)) (h.below hW) (sh_le (by omega)) ((var_len hx (by omega) hv).below hW)).mono fun e w' k => k.imp fun s ⟨s1, h1, h2⟩ => by
      have h1 : s1.size ≤ y.length + 2 := h1
      rw [Sh, h2, sz_app, sz_app]
      show 4 + s1.size + 1 ≤ _
      omega
  | .ite c t f, v, hok, hl, h => by
    obtain ⟨k, kc, vt, vf, rfl, h, hc, ht, hf⟩ := h
    simp only [IE.ok, Bool.and_eq_true] at hok
    simp only [IE.txt, List.length_append, List.length_cons, List.length_nil] at hl ⊢
    have s1 := ie_go hT hx t vt hok.1.2 (by omega) ht
    have s2 := ie_go hT hx f vf hok.2 (by omega) hf
    exact sp_mk1 (is_IfThenElse_IntExprToGo _) fun W hW => (iteGo_c W k x _ _ _ (Sh (c.length + 2)) (Sh (40 * t.txt.length)) (Sh (40 * f.txt.length)) (h.below hW) (sh_le (by omega)) (sh_le (by omega)) (sh_le (by omega)) ((var_bool hx (by omega) hc).below hW) (s1.below hW) (s2.below hW)).mono fun e w' k => k.imp fun s ⟨s1, s2, s3, h1, h2, h3, h4⟩ => by
      have h1 : s1.size ≤ c.length + 2 := h1
      have h2 : s2.size ≤ 40 * t.txt.length := h2
      have h3 : s3.size ≤ 40 * f.txt.length := h3
      rw [Sh, h4, sz_app, sz_app, sz_app, sz_app, sz_app, sz_app]
      show 11 + s1.size + 2 + s2.size + 2 + s3.size + 1 ≤ _
      omega
theorem na_unp (hT : Pow w) (a : NA) (v : Value) (hok : a.ok = true) (hl : a.txt.length ≤ 16777216) (h : NAAt w v a) : Sp w "Unparse" #[] v (Is a.unp) := by
  cases a with
  | var y =>
    obtain ⟨k, rfl, h⟩ := h
    exact var_unp h
  | last y =>
    obtain ⟨k, kv, rfl, h, hv⟩ := h
    simp only [NA.txt, List.length_append, List.length_cons, List.length_nil] at hl
    exact sp_mk0 is_NodeSliceLast_Unparse fun W hW => (lastUnp_c W k _ (Is y) (h.below hW) (is_le (by omega)) ((var_unp hv).below hW)).mono fun e w' k => k.imp fun s ⟨s1, h1, h2⟩ => by
      rw [Is, h2, h1]
      exact mk_app y [91, 36, 93]
  | index y i =>
    obtain ⟨k, kv, vi, rfl, h, hv, hi⟩ := h
    simp only [NA.ok, Bool.and_eq_true] at hok
    simp only [NA.txt, List.length_append, List.length_cons, List.length_nil] at hl
    have l1 := IE.unp_le i
    have s1 := ie_unp hT i vi hok.2 (by omega) hi
    exact sp_mk0 is_NodeSliceIndex_Unparse fun W hW => (indexUnp_c W k _ _ (Is y) (Is i.unp) (h.below hW) (is_le (by omega)) (is_le (by omega)) ((var_unp hv).below hW) (s1.below hW)).mono fun e w' k => k.imp fun s ⟨s1, s2, h1, h2, h3⟩ => by
      rw [Is, h3, h1, h2]
      exact (congrArg (· ++ _) ((congrArg (· ++ _) (mk_app y [91])).trans (mk_app _ _))).trans (mk_app _ [93])
theorem na_go (hT : Pow w) (hx : x.size ≤ 1) (a : NA) (v : Value) (hok : a.ok = true) (hl : a.txt.length ≤ 16777216) (h : NAAt w v a) : Sp w "NodeExprToGo" #[.string x] v (Sh (40 * a.txt.length)) := by
  cases a with
  | var y =>
    obtain ⟨k, rfl, h⟩ := h
    have := name_pos (show nameOk y = true from hok)
    simp only [NA.txt] at hl ⊢
    exact (var_node hx hl h).imp fun s hs => Nat.le_trans hs (by omega)
  | last y =>
    obtain ⟨k, kv, rfl, h, hv⟩ := h
    simp only [NA.txt, List.length_append, List.length_cons, List.length_nil] at hl ⊢
    exact sp_mk1 (is_NodeSliceLast_NodeExprToGo _) fun W hW => (lastGo_c W k x _ (Sh (y.length + 2)) (h.below hW) (sh_le (by omega)) ((var_slice hx (by omega) hv).below hW)).mono fun e w' k => k.imp fun s ⟨s1, h1, h2⟩ => by
      have h1 : s1.size ≤ y.length + 2 := h1
      rw [Sh, h2, sz_app, sz_app]
      show 14 + s1.size + 1 ≤ _
      omega
  | index y i =>
    obtain ⟨k, kv, vi, rfl, h, hv, hi⟩ := h
    simp only [NA.ok, Bool.and_eq_true] at hok
    simp only [NA.txt, List.length_append, List.length_cons, List.length_nil] at hl ⊢
    have s1 := ie_go hT hx i vi hok.2 (by omega) hi
    exact sp_mk1 (is_NodeSliceIndex_NodeExprToGo _) fun W hW => (indexGo_c W k x _ _ (Sh (y.length + 2)) (Sh (40 * i.txt.length)) (h.below hW) (sh_le (by omega)) (sh_le (by omega)) ((var_slice hx (by omega) hv).below hW) (s1.below hW)).mono fun e w' k => k.imp fun s ⟨s1, s2, h1, h2, h3⟩ => by
      have h1 : s1.size ≤ y.length + 2 := h1
      have h2 : s2.size ≤ 40 * i.txt.length := h2
      rw [Sh, h3, sz_app, sz_app, sz_app, sz_app]
      show 15 + s1.size + 2 + s2.size + 1 ≤ _
      omega

/-! ### Lists of parts -/
theorem All2.conv {α β : Type} {p : Value → α → Prop} {q : Value → β → Prop} (f : α → β) : ∀ {vs : List Value} {l : List α}, All2 p vs l → (∀ v a, a ∈ l → p v a → q v (f a)) → All2 q vs (l.map f)
  | [], [], _, _ => trivial
  | _ :: _, a :: _, h, k => ⟨k _ a (by simp) h.1, All2.conv f h.2 fun v b hb => k v b (by simp [hb])⟩
  | [], _ :: _, h, _ => h.elim
  | _ :: _, [], h, _ => h.elim
theorem allQ_is {α : Type} (f : α → Bs) : ∀ {l : List α} {ss : List ByteArray}, AllQ (l.map fun a => Is (f a)) ss → ss.map (·.data.toList) = l.map f
  | [], [], _ => rfl
  | a :: l, s :: ss, h => by
    have e : s = ⟨(f a).toArray⟩ := h.1
    rw [List.map_cons, List.map_cons, allQ_is f h.2, e]
  | [], _ :: _, h => h.elim
  | _ :: _, [], h => h.elim
theorem allQ_sh {α : Type} (f : α → Nat) : ∀ {l : List α} {ss : List ByteArray}, AllQ (l.map fun a => Sh (f a)) ss → Lib.lens (ss.map (·.data.toList)) ≤ (l.map f).sum
  | [], [], _ => Nat.le_refl _
  | a :: l, s :: ss, h => by
    have h1 : s.size ≤ f a := h.1
    have h2 := allQ_sh f h.2
    simp only [Lib.lens, List.map_cons, List.sum_cons] at h2 ⊢
    have h3 : s.data.toList.length = s.size := Array.length_toList
    omega
  | [], _ :: _, h => h.elim
  | _ :: _, [], h => h.elim
theorem join_le {α : Type} (f : α → Nat) {l : List α} {ss : List ByteArray} (h : AllQ (l.map fun a => Sh (f a)) ss) (sep : Bs) : (Lib.join (ss.map (·.data.toList)) sep).length ≤ (l.map f).sum + sep.length * l.length := by
  have h1 := allQ_sh f h
  have h2 := AllQ.length h
  cases ss with
  | nil => simp [Lib.join_nil]
  | cons s ss =>
    rw [List.map_cons] at h1 ⊢
    rw [Lib.join_length, List.length_map]
    simp only [List.length_map, List.length_cons] at h2
    have : sep.length * ss.length ≤ sep.length * l.length := Nat.mul_le_mul_left _ (by omega)
    omega
theorem join_txt {α : Type} (f : α → Bs) (sep : Bs) (a : α) (l : List α) : Lib.join ((a :: l).map f) sep = f a ++ l.flatMap fun b => sep ++ f b := by
  rw [List.map_cons, Lib.join_cons, Lib.joinTail, List.map_map, List.flatMap_def]
  rfl
end
end Go.Proofs.YthpianlilipggaaGreatDoor
