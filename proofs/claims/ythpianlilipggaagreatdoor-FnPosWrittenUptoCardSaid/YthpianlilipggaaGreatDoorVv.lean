/- What the language of positions writes: nodes, positions, sums, choices. Condition: the expression's tokens are at most 2^24 letters; the table of powers holds what it was laid with. -/
import Derived.Test.YthpianlilipggaaGreatDoorVu
namespace Go.Proofs.YthpianlilipggaaGreatDoor
open Go.RowKit Go.PlainAid

section
variable {w : World} {x : ByteArray}
theorem sum_txt {α : Type} (f : α → Bs) : ∀ (l : List α), 40 * (l.flatMap f).length = (l.map fun a => 40 * (f a).length).sum
  | [] => rfl
  | a :: l => by
    have := sum_txt f l
    simp only [List.flatMap_cons, List.length_append, List.map_cons, List.sum_cons, Nat.mul_add] at this ⊢
    omega
theorem sum_le {α : Type} (f g : α → Nat) (c : Nat) : ∀ (l : List α), (∀ a ∈ l, f a + c ≤ g a) → (l.map f).sum + c * l.length ≤ (l.map g).sum
  | [], _ => by simp
  | a :: l, h => by
    have h1 := h a (by simp)
    have h2 := sum_le f g c l fun b hb => h b (by simp [hb])
    simp only [List.map_cons, List.sum_cons, List.length_cons, Nat.mul_add] at h2 ⊢
    omega
theorem flat_part {α : Type} (f : α → Bs) : ∀ {l : List α} {a : α}, a ∈ l → (f a).length ≤ (l.flatMap f).length
  | b :: l, a, h => by
    rw [List.flatMap_cons, List.length_append]
    rcases List.mem_cons.1 h with rfl | h
    · omega
    · have := flat_part f h; omega
theorem flat_len {α : Type} (f : α → Bs) (h : ∀ a, 2 ≤ (f a).length) : ∀ (l : List α), 2 * l.length ≤ (l.flatMap f).length
  | [] => Nat.zero_le _
  | a :: l => by
    have h1 := h a
    have h2 := flat_len f h l
    simp only [List.flatMap_cons, List.length_append, List.length_cons] at h2 ⊢
    omega

theorem ne_unp (hT : Pow w) (n : NE) (v : Value) (hok : n.ok = true) (hl : n.txt.length ≤ 16777216) (h : NEAt w v n) : Sp w "Unparse" #[] v (Is n.unp) := by
  cases n with
  | one a => exact na_unp hT a v hok hl h
  | many a l =>
    obtain ⟨k, g, cap, vs, rfl, h, hcap, hr, hall⟩ := h
    simp only [NE.ok, Bool.and_eq_true, List.all_eq_true] at hok
    have hu := NE.unp_le (.many a l)
    have hn := flat_len (fun b : NA => [63, 63] ++ b.txt) (fun b => by simp) l
    have hvl : vs.length = l.length + 1 := by simpa using All2.length hall
    have hp : ∀ b ∈ a :: l, b.txt.length ≤ 16777216 ∧ b.ok = true := by
      intro b hb
      rcases List.mem_cons.1 hb with rfl | hb
      · exact ⟨by simp only [NE.txt, List.length_append] at hl; omega, hok.1.1⟩
      · have := flat_part (fun b : NA => [63, 63] ++ b.txt) hb
        exact ⟨by simp only [NE.txt, List.length_append, List.length_cons, List.length_nil] at hl this; omega, hok.1.2 b hb⟩
    simp only [NE.txt, List.length_append, List.length_cons, List.length_nil] at hl
    have hs : All2 (fun v Q => Sp w "Unparse" #[] v Q) vs ((a :: l).map fun b => Is b.unp) := All2.conv _ hall fun v b hb k => na_unp hT b v (hp b hb).2 (hp b hb).1 k
    have hj : ∀ ss, AllQ ((a :: l).map fun b => Is b.unp) ss → Lib.join (ss.map (·.data.toList)) [32, 63, 63, 32] = a.unp ++ l.flatMap fun b => [32, 63, 63, 32] ++ b.unp := fun ss h => by rw [allQ_is _ h, join_txt]
    rw [← hvl] at h hcap
    refine sp_mk0 is_NodeChoice_Unparse fun W hW => (nodesUnp_c W k g cap vs _ (h.below hW) ?_ hcap (by omega) (by omega) (hs.imp fun v Q z => z.below hW) ?_).mono fun e w' k => k.imp fun s ⟨ss, h1, h2⟩ => ?_
    · obtain ⟨C, h1, h2⟩ := hr
      exact ⟨C, h1.below hW, h2⟩
    · intro ss h1
      rw [hj ss h1]
      simp only [NE.unp, NE.txt, List.length_append, List.length_cons, List.length_nil] at hu ⊢
      omega
    · rw [Is, h2, hj ss h1]
      exact (congrArg (· ++ _) (mk_app [40] _)).trans (mk_app _ [41])
theorem ne_go (hT : Pow w) (hx : x.size ≤ 1) (n : NE) (v : Value) (hok : n.ok = true) (hl : n.txt.length ≤ 16777216) (h : NEAt w v n) : Sp w "NodeExprToGo" #[.string x] v (Sh (40 * n.txt.length)) := by
  cases n with
  | one a => exact na_go hT hx a v hok hl h
  | many a l =>
    obtain ⟨k, g, cap, vs, rfl, h, hcap, hr, hall⟩ := h
    simp only [NE.ok, Bool.and_eq_true, List.all_eq_true] at hok
    have hn := flat_len (fun b : NA => [63, 63] ++ b.txt) (fun b => by simp) l
    have hvl : vs.length = l.length + 1 := by simpa using All2.length hall
    have hp : ∀ b ∈ a :: l, b.txt.length ≤ 16777216 ∧ b.ok = true := by
      intro b hb
      rcases List.mem_cons.1 hb with rfl | hb
      · exact ⟨by simp only [NE.txt, List.length_append] at hl; omega, hok.1.1⟩
      · have := flat_part (fun b : NA => [63, 63] ++ b.txt) hb
        exact ⟨by simp only [NE.txt, List.length_append, List.length_cons, List.length_nil] at hl this; omega, hok.1.2 b hb⟩
    have hsum := sum_txt (fun b : NA => [63, 63] ++ b.txt) l
    have hsl := sum_le (fun b : NA => 40 * b.txt.length) (fun b : NA => 40 * ([63, 63] ++ b.txt : Bs).length) 2 l (fun b _ => by simp; omega)
    simp only [NE.txt, List.length_append, List.length_cons, List.length_nil] at hl
    have hs : All2 (fun v Q => Sp w "NodeExprToGo" #[.string x] v Q) vs ((a :: l).map fun b => Sh (40 * b.txt.length)) := All2.conv _ hall fun v b hb k => na_go hT hx b v (hp b hb).2 (hp b hb).1 k
    have hj : ∀ ss, AllQ ((a :: l).map fun b => Sh (40 * b.txt.length)) ss → (Lib.join (ss.map (·.data.toList)) [44, 32]).length ≤ 40 * a.txt.length + 40 * (l.flatMap fun b : NA => [63, 63] ++ b.txt).length + 2 := fun ss h => by
      have := join_le _ h [44, 32]
      simp only [List.map_cons, List.sum_cons, List.length_cons, List.length_nil] at this
      omega
    rw [← hvl] at h hcap
    refine sp_mk1 (is_NodeChoice_NodeExprToGo _) fun W hW => (nodesGo_c W k g cap x vs _ (h.below hW) ?_ hcap (by omega) (by omega) (hs.imp fun v Q z => z.below hW) ?_).mono fun e w' k => k.imp fun s ⟨ss, h1, h2⟩ => ?_
    · obtain ⟨C, h1, h2⟩ := hr
      exact ⟨C, h1.below hW, h2⟩
    · intro ss h1
      have := hj ss h1
      omega
    · have := hj ss h1
      have e9 : (NE.many a l).txt.length = 1 + (a.txt.length + (l.flatMap fun b : NA => [63, 63] ++ b.txt).length) + 1 := by simp only [NE.txt, List.length_append, List.length_cons, List.length_nil]; omega
      rw [Sh, h2, sz_app, sz_app, e9]
      show 11 + _ + 1 ≤ _
      rw [sz_mk]
      omega
theorem pa_unp (hT : Pow w) (a : PA) (v : Value) (hok : a.ok = true) (hl : a.txt.length ≤ 16777216) (h : PAAt w v a) : Sp w "Unparse" #[] v (Is a.unp) := by
  cases a with
  | var y =>
    obtain ⟨k, rfl, h⟩ := h
    exact var_unp h
  | pos n =>
    obtain ⟨k, vn, rfl, h, hn⟩ := h
    have hu := NE.unp_le n
    simp only [PA.txt, List.length_append, List.length_cons, List.length_nil] at hl
    have s1 := ne_unp hT n vn hok (by omega) hn
    exact sp_mk0 is_NodePos_Unparse fun W hW => (posUnp_c W k _ (Is n.unp) (h.below hW) (is_le (by omega)) (s1.below hW)).mono fun e w' k => k.imp fun s ⟨s1, h1, h2⟩ => by
      rw [Is, h2, h1]
      exact mk_app _ [46, 112, 111, 115]
  | fin n =>
    obtain ⟨k, vn, rfl, h, hn⟩ := h
    have hu := NE.unp_le n
    simp only [PA.txt, List.length_append, List.length_cons, List.length_nil] at hl
    have s1 := ne_unp hT n vn hok (by omega) hn
    exact sp_mk0 is_NodeEnd_Unparse fun W hW => (finUnp_c W k _ (Is n.unp) (h.below hW) (is_le (by omega)) (s1.below hW)).mono fun e w' k => k.imp fun s ⟨s1, h1, h2⟩ => by
      rw [Is, h2, h1]
      exact mk_app _ [46, 101, 110, 100]
theorem pa_go (hT : Pow w) (hx : x.size ≤ 1) (a : PA) (v : Value) (hok : a.ok = true) (hl : a.txt.length ≤ 16777216) (h : PAAt w v a) : Sp w "PosExprToGo" #[.string x] v (Sh (40 * a.txt.length)) := by
  cases a with
  | var y =>
    obtain ⟨k, rfl, h⟩ := h
    have := name_pos (show nameOk y = true from hok)
    simp only [PA.txt] at hl ⊢
    exact (var_pos hx hl h).imp fun s hs => Nat.le_trans hs (by omega)
  | pos n =>
    obtain ⟨k, vn, rfl, h, hn⟩ := h
    simp only [PA.txt, List.length_append, List.length_cons, List.length_nil] at hl ⊢
    have s1 := ne_go hT hx n vn hok (by omega) hn
    exact sp_mk1 (is_NodePos_PosExprToGo _) fun W hW => (posGo_c W k x _ _ (h.below hW) (sh_le (by omega)) (s1.below hW)).mono fun e w' k => k.imp fun s ⟨s1, h1, h2⟩ => by
      have h1 : s1.size ≤ 40 * n.txt.length := h1
      rw [Sh, h2, sz_app, sz_app]
      show 8 + s1.size + 1 ≤ _
      omega
  | fin n =>
    obtain ⟨k, vn, rfl, h, hn⟩ := h
    simp only [PA.txt, List.length_append, List.length_cons, List.length_nil] at hl ⊢
    have s1 := ne_go hT hx n vn hok (by omega) hn
    exact sp_mk1 (is_NodeEnd_PosExprToGo _) fun W hW => (finGo_c W k x _ _ (h.below hW) (sh_le (by omega)) (s1.below hW)).mono fun e w' k => k.imp fun s ⟨s1, h1, h2⟩ => by
      have h1 : s1.size ≤ 40 * n.txt.length := h1
      rw [Sh, h2, sz_app, sz_app]
      show 8 + s1.size + 1 ≤ _
      omega
theorem adds_unp (hT : Pow w) : ∀ (l : List IE) (v0 v : Value) (t0 : Bs), (∀ i ∈ l, i.ok = true) → (∀ i ∈ l, i.txt.length ≤ 16777216) → (t0 ++ l.flatMap fun (i : IE) => [32, 43, 32] ++ i.unp).length ≤ 1073741824 → Sp w "Unparse" #[] v0 (Is t0) → AddsAt w v0 l v →
    Sp w "Unparse" #[] v (Is (t0 ++ l.flatMap fun (i : IE) => [32, 43, 32] ++ i.unp))
  | [], v0, v, t0, _, _, _, hs, h => by
    obtain rfl : v = v0 := h
    simpa using hs
  | i :: l, v0, v, t0, hok, hl, hb, hs, h => by
    obtain ⟨k, vi, h, hi, hr⟩ := h
    simp only [List.flatMap_cons, List.length_append, List.length_cons, List.length_nil] at hb
    have s1 := ie_unp hT i vi (hok i (by simp)) (hl i (by simp)) hi
    have hn : Sp w "Unparse" #[] (.iface 76 (ptr k)) (Is (t0 ++ [32, 43, 32] ++ i.unp)) :=
      sp_mk0 is_PosAdd_Unparse fun W hW => (addUnp_c W k _ _ (Is t0) (Is i.unp) (h.below hW) (is_le (by omega)) (is_le (by omega)) (hs.below hW) (s1.below hW)).mono fun e w' k => k.imp fun s ⟨s1, s2, h1, h2, h3⟩ => by
        rw [Is, h3, h1, h2]
        exact (congrArg (· ++ _) (mk_app t0 [32, 43, 32])).trans (mk_app _ _)
    have := adds_unp hT l _ v (t0 ++ [32, 43, 32] ++ i.unp) (fun j hj => hok j (by simp [hj])) (fun j hj => hl j (by simp [hj])) (by simp only [List.length_append, List.length_cons, List.length_nil]; omega) hn hr
    simpa using this
theorem adds_go (hT : Pow w) (hx : x.size ≤ 1) : ∀ (l : List IE) (v0 v : Value) (n0 : Nat), (∀ i ∈ l, i.ok = true) → (∀ i ∈ l, i.txt.length ≤ 16777216) → n0 + 40 * (addTxt l).length ≤ 1073741824 → Sp w "PosExprToGo" #[.string x] v0 (Sh n0) → AddsAt w v0 l v →
    Sp w "PosExprToGo" #[.string x] v (Sh (n0 + 40 * (addTxt l).length))
  | [], v0, v, n0, _, _, _, hs, h => by
    obtain rfl : v = v0 := h
    exact hs
  | i :: l, v0, v, n0, hok, hl, hb, hs, h => by
    obtain ⟨k, vi, h, hi, hr⟩ := h
    have e1 : (addTxt (i :: l)).length = 1 + i.txt.length + (addTxt l).length := by simp [addTxt]; omega
    rw [e1] at hb ⊢
    have s1 := ie_go hT hx i vi (hok i (by simp)) (hl i (by simp)) hi
    have hn : Sp w "PosExprToGo" #[.string x] (.iface 76 (ptr k)) (Sh (n0 + 40 * (1 + i.txt.length))) :=
      sp_mk1 (is_PosAdd_PosExprToGo _) fun W hW => (addGo_c W k x _ _ _ _ (h.below hW) (sh_le (by omega)) (sh_le (by omega)) (hs.below hW) (s1.below hW)).mono fun e w' k => k.imp fun s ⟨s1, s2, h1, h2, h3⟩ => by
        have h1 : s1.size ≤ n0 := h1
        have h2 : s2.size ≤ 40 * i.txt.length := h2
        rw [Sh, h3, sz_app, sz_app, sz_app, sz_app]
        show 7 + s1.size + 2 + s2.size + 1 ≤ _
        omega
    refine (adds_go hT hx l _ v (n0 + 40 * (1 + i.txt.length)) (fun j hj => hok j (by simp [hj])) (fun j hj => hl j (by simp [hj])) (by omega) hn hr).imp fun s hs => Nat.le_trans hs (by omega)
theorem px_parts {y : PX} (hok : y.ok = true) (hl : y.txt.length ≤ 16777216) : y.atom.ok = true ∧ (∀ i ∈ y.adds, i.ok = true) ∧ y.atom.txt.length ≤ 16777216 ∧ (∀ i ∈ y.adds, i.txt.length ≤ 16777216) ∧ y.txt.length = y.atom.txt.length + (addTxt y.adds).length := by
  simp only [PX.ok, Bool.and_eq_true, List.all_eq_true] at hok
  have e : y.txt.length = y.atom.txt.length + (addTxt y.adds).length := by simp [PX.txt, addTxt]
  refine ⟨hok.1, hok.2, by omega, fun i hi => ?_, e⟩
  have := flat_part (fun i : IE => [43] ++ i.txt) hi
  have e2 : (addTxt y.adds).length = (y.adds.flatMap fun i => [43] ++ i.txt).length := rfl
  simp only [List.length_append, List.length_cons, List.length_nil] at this e2
  omega
theorem px_unp (hT : Pow w) (y : PX) (v : Value) (hok : y.ok = true) (hl : y.txt.length ≤ 16777216) (h : PXAt w v y) : Sp w "Unparse" #[] v (Is y.unp) := by
  obtain ⟨h1, h2, h3, h4, h5⟩ := px_parts hok hl
  obtain ⟨v0, ha, hr⟩ := h
  have hu := PX.unp_le y
  exact adds_unp hT y.adds v0 v y.atom.unp h2 h4 (by show y.unp.length ≤ _; omega) (pa_unp hT y.atom v0 h1 h3 ha) hr
theorem px_go (hT : Pow w) (hx : x.size ≤ 1) (y : PX) (v : Value) (hok : y.ok = true) (hl : y.txt.length ≤ 16777216) (h : PXAt w v y) : Sp w "PosExprToGo" #[.string x] v (Sh (40 * y.txt.length)) := by
  obtain ⟨h1, h2, h3, h4, h5⟩ := px_parts hok hl
  obtain ⟨v0, ha, hr⟩ := h
  exact (adds_go hT hx y.adds v0 v (40 * y.atom.txt.length) h2 h4 (by omega) (pa_go hT hx y.atom v0 h1 h3 ha) hr).imp fun s hs => Nat.le_trans hs (by omega)
theorem pc_unp (hT : Pow w) (y : PC) (v : Value) (hok : y.ok = true) (hl : y.txt.length ≤ 16777216) (h : PCAt w v y) : Sp w "Unparse" #[] v (Is y.unp) := by
  obtain ⟨a, l⟩ := y
  simp only [PC.ok, Bool.and_eq_true, List.all_eq_true] at hok
  rcases h with ⟨e, h⟩ | ⟨k, g, cap, vs, _, rfl, h, hcap, hr, hall⟩
  · have e : l = [] := e
    subst e
    have := px_unp hT a v hok.1 (by simpa [PC.txt] using hl) h
    simpa [PC.unp] using this
  · have hu := PC.unp_le ⟨a, l⟩
    have hn := flat_len (fun b : PX => [124, 124] ++ b.txt) (fun b => by simp) l
    have hvl : vs.length = l.length + 1 := by simpa using All2.length hall
    have hp : ∀ b ∈ a :: l, b.txt.length ≤ 16777216 ∧ b.ok = true := by
      intro b hb
      rcases List.mem_cons.1 hb with rfl | hb
      · exact ⟨by simp only [PC.txt, List.length_append] at hl; omega, hok.1⟩
      · have := flat_part (fun b : PX => [124, 124] ++ b.txt) hb
        exact ⟨by simp only [PC.txt, List.length_append, List.length_cons, List.length_nil] at hl this; omega, hok.2 b hb⟩
    simp only [PC.txt, List.length_append] at hl
    have hs : All2 (fun v Q => Sp w "Unparse" #[] v Q) vs ((a :: l).map fun b => Is b.unp) := All2.conv _ hall fun v b hb k => px_unp hT b v (hp b hb).2 (hp b hb).1 k
    have hj : ∀ ss, AllQ ((a :: l).map fun b => Is b.unp) ss → Lib.join (ss.map (·.data.toList)) [32, 124, 124, 32] = a.unp ++ l.flatMap fun b => [32, 124, 124, 32] ++ b.unp := fun ss h => by rw [allQ_is _ h, join_txt]
    rw [← hvl] at h hcap
    refine sp_mk0 is_PosChoice_Unparse fun W hW => (altsUnp_c W k g cap vs _ (h.below hW) ?_ hcap (by omega) (by omega) (hs.imp fun v Q z => z.below hW) ?_).mono fun e w' k => k.imp fun s ⟨ss, h1, h2⟩ => ?_
    · obtain ⟨C, h1, h2⟩ := hr
      exact ⟨C, h1.below hW, h2⟩
    · intro ss h1
      rw [hj ss h1]
      simp only [PC.unp, PC.txt, List.length_append] at hu ⊢
      omega
    · rw [Is, h2, hj ss h1]
      rfl
theorem pc_go (hT : Pow w) (hx : x.size ≤ 1) (y : PC) (v : Value) (hok : y.ok = true) (hl : y.txt.length ≤ 16777216) (h : PCAt w v y) : Sp w "PosExprToGo" #[.string x] v (Sh 1073741824) := by
  obtain ⟨a, l⟩ := y
  simp only [PC.ok, Bool.and_eq_true, List.all_eq_true] at hok
  rcases h with ⟨e, h⟩ | ⟨k, g, cap, vs, _, rfl, h, hcap, hr, hall⟩
  · have e : l = [] := e
    subst e
    have hl2 : a.txt.length ≤ 16777216 := by simpa [PC.txt] using hl
    exact (px_go hT hx a v hok.1 hl2 h).imp fun s hs => Nat.le_trans hs (by omega)
  · have hn := flat_len (fun b : PX => [124, 124] ++ b.txt) (fun b => by simp) l
    have hvl : vs.length = l.length + 1 := by simpa using All2.length hall
    have hp : ∀ b ∈ a :: l, b.txt.length ≤ 16777216 ∧ b.ok = true := by
      intro b hb
      rcases List.mem_cons.1 hb with rfl | hb
      · exact ⟨by simp only [PC.txt, List.length_append] at hl; omega, hok.1⟩
      · have := flat_part (fun b : PX => [124, 124] ++ b.txt) hb
        exact ⟨by simp only [PC.txt, List.length_append, List.length_cons, List.length_nil] at hl this; omega, hok.2 b hb⟩
    have hsum := sum_txt (fun b : PX => [124, 124] ++ b.txt) l
    have hsl := sum_le (fun b : PX => 40 * b.txt.length) (fun b : PX => 40 * ([124, 124] ++ b.txt : Bs).length) 2 l (fun b _ => by simp; omega)
    simp only [PC.txt, List.length_append] at hl
    have hs : All2 (fun v Q => Sp w "PosExprToGo" #[.string x] v Q) vs ((a :: l).map fun b => Sh (40 * b.txt.length)) := All2.conv _ hall fun v b hb k => px_go hT hx b v (hp b hb).2 (hp b hb).1 k
    have hj : ∀ ss, AllQ ((a :: l).map fun b => Sh (40 * b.txt.length)) ss → (Lib.join (ss.map (·.data.toList)) [44, 32]).length ≤ 40 * a.txt.length + 40 * (l.flatMap fun b : PX => [124, 124] ++ b.txt).length + 2 := fun ss h => by
      have := join_le _ h [44, 32]
      simp only [List.map_cons, List.sum_cons, List.length_cons, List.length_nil] at this
      omega
    rw [← hvl] at h hcap
    refine sp_mk1 (is_PosChoice_PosExprToGo _) fun W hW => (altsGo_c W k g cap x vs _ (h.below hW) ?_ hcap (by omega) (by omega) (hs.imp fun v Q z => z.below hW) ?_).mono fun e w' k => k.imp fun s ⟨ss, h1, h2⟩ => ?_
    · obtain ⟨C, h1, h2⟩ := hr
      exact ⟨C, h1.below hW, h2⟩
    · intro ss h1
      have := hj ss h1
      omega
    · have := hj ss h1
      rw [Sh, h2, sz_app, sz_app]
      show 10 + _ + 1 ≤ _
      rw [sz_mk]
      omega
end
end Go.Proofs.YthpianlilipggaaGreatDoor
