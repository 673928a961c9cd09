/- The law's trees in memory; how many nodes one has. Condition: at most 2^40 nodes. -/
import Derived.Test.YthpianlilipggaaGreatDoorVw
namespace Go.Proofs.YthpianlilipggaaGreatDoor
open Go.RowKit Go.PlainAid

def PE.name : PE → Bs
  | .mk _ nm _ _ => nm
def PE.num : PE → Int
  | .mk _ _ n _ => n
mutual
/-- The value v leads to the parts of the tree. -/
def PEAt (w : World) : PE → Value → Prop
  | .mk _ _ _ l, v => ∃ a cap, v = .slice a l.length cap ∧ l.length ≤ cap ∧ PEsAt w a 0 l
def PEsAt (w : World) (a : Option Addr) : Nat → List PE → Prop
  | _, [] => True
  | i, e :: r => (∃ g o u, a = some ⟨g, o, none⟩ ∧ w.cell? ⟨g, o + i * 4, none⟩ = some (strV e.kind) ∧ w.cell? ⟨g, o + i * 4 + 1, none⟩ = some (strV e.name) ∧ w.cell? ⟨g, o + i * 4 + 2, none⟩ = some (.int .i64 e.num) ∧ w.cell? ⟨g, o + i * 4 + 3, none⟩ = some u ∧ PEAt w e u) ∧ PEsAt w a (i + 1) r
end
/-- A tree as a value. -/
def peVal (e : PE) (v : Value) : Value := .agg #[strV e.kind, strV e.name, .int .i64 e.num, v]
theorem cell_lt {w : World} {g o : Nat} {u : Value} (h : w.cell? ⟨g, o, none⟩ = some u) : g < w.heap.size := by
  rcases Nat.lt_or_ge g w.heap.size with h1 | h1
  · exact h1
  · have : w.heap[g]? = none := Array.getElem?_eq_none h1
    simp [World.cell?, this] at h
theorem cell_below {w w' : World} {g o : Nat} {u : Value} (h : w.cell? ⟨g, o, none⟩ = some u) (hb : Below w.heap.size w w') : w'.cell? ⟨g, o, none⟩ = some u := by
  rw [hb.cell (p := ⟨g, o, none⟩) (cell_lt h)]
  exact h
mutual
theorem PEAt.below {w w' : World} (hb : Below w.heap.size w w') : ∀ {e : PE} {v : Value}, PEAt w e v → PEAt w' e v
  | .mk _ _ _ _, _, ⟨a, cap, h1, h2, h3⟩ => ⟨a, cap, h1, h2, PEsAt.below hb h3⟩
theorem PEsAt.below {w w' : World} (hb : Below w.heap.size w w') : ∀ {l : List PE} {a : Option Addr} {i : Nat}, PEsAt w a i l → PEsAt w' a i l
  | [], _, _, _ => trivial
  | _ :: _, _, _, ⟨⟨g, o, u, h0, h1, h2, h3, h4, h5⟩, h6⟩ => ⟨⟨g, o, u, h0, cell_below h1 hb, cell_below h2 hb, cell_below h3 hb, cell_below h4 hb, PEAt.below hb h5⟩, PEsAt.below hb h6⟩
end
theorem PEsAt.at {w : World} : ∀ {l : List PE} {a : Option Addr} {i j : Nat} {e : PE}, PEsAt w a i l → l[j]? = some e →
    ∃ g o u, a = some ⟨g, o, none⟩ ∧ w.cell? ⟨g, o + (i + j) * 4, none⟩ = some (strV e.kind) ∧ w.cell? ⟨g, o + (i + j) * 4 + 1, none⟩ = some (strV e.name) ∧ w.cell? ⟨g, o + (i + j) * 4 + 2, none⟩ = some (.int .i64 e.num) ∧ w.cell? ⟨g, o + (i + j) * 4 + 3, none⟩ = some u ∧ PEAt w e u
  | [], _, _, _, _, _, h => by cases h
  | _ :: _, _, _, 0, _, h, hj => by
    cases hj
    exact h.1
  | _ :: l, a, i, j + 1, e, h, hj => by
    have := PEsAt.at (j := j) h.2 hj
    rwa [show i + 1 + j = i + (j + 1) by omega] at this
theorem sizeL_take : ∀ (l : List PE) (j : Nat) (e : PE), l[j]? = some e → PE.sizeL (l.take (j + 1)) = PE.sizeL (l.take j) + e.size
  | [], _, _, h => by cases h
  | _ :: _, 0, _, h => by
    cases h
    simp [PE.sizeL]
  | a :: l, j + 1, e, h => by
    have := sizeL_take l j e h
    simp only [List.take_succ_cons, PE.sizeL, this]
    omega
theorem sizeL_take_le : ∀ (l : List PE) (j : Nat), PE.sizeL (l.take j) ≤ PE.sizeL l
  | [], j => by simp
  | a :: l, 0 => by simp [PE.sizeL]
  | a :: l, j + 1 => by
    have := sizeL_take_le l j
    simp only [List.take_succ_cons, PE.sizeL]
    omega
theorem wtL_mem : ∀ {l : List PE} {e : PE}, e ∈ l → e.wt ≤ PE.wtL l
  | a :: r, e, h => by
    rw [PE.wtL]
    rcases List.mem_cons.1 h with rfl | h
    · omega
    · have := wtL_mem h; omega
theorem len_le_size : ∀ (l : List PE), l.length ≤ PE.sizeL l
  | [] => Nat.le_refl _
  | a :: l => by
    have := len_le_size l
    have h1 : 1 ≤ a.size := by cases a; rw [PE.size]; omega
    simp only [PE.sizeL, List.length_cons]
    omega

set_option maxHeartbeats 1000000 in
theorem fits_c (e : PE) (v : Value) (w : World) (hk : e.kind.length ≤ 16777216) (hn : e.name.length ≤ 16777216) (hl : e.args.length ≤ 16777216) (h : PEAt w e v) :
    Calls Tryz.prog 4 #[peVal e v] w fun r w' => r = .returned (.bool true) ∧ Below w.heap.size w w' := by
  obtain ⟨k, nm, n, l⟩ := e
  obtain ⟨a, cap, rfl, _, _⟩ := h
  have hk : k.length ≤ 16777216 := hk
  have hn : nm.length ≤ 16777216 := hn
  have hl : l.length ≤ 16777216 := hl
  show Calls Tryz.prog 4 #[.agg #[.string ⟨k.toArray⟩, .string ⟨nm.toArray⟩, .int .i64 n, .slice a l.length cap]] w _
  go_enter Tryz.func4, Tryz.ntmps4
  go_wp2_with fail
  go_ret
  exact ⟨rfl, (Below.refl _ _).alloc (Nat.le_refl _) _⟩

set_option maxHeartbeats 2000000 in
set_option maxRecDepth 20000 in
theorem posSize_c : ∀ (m : Nat) (e : PE) (v : Value) (w : World), e.size ≤ m → e.size ≤ 1099511627776 → PEAt w e v →
    Calls Tryz.prog 5 #[peVal e v] w fun r w' => r = .returned (.int .i64 (e.size : Int)) ∧ Below w.heap.size w w' := by
  intro m
  induction m with
  | zero =>
    intro e v w hm
    cases e
    rw [PE.size] at hm
    omega
  | succ m ih =>
    intro e v w hm hs h
    obtain ⟨k, nm, n, l⟩ := e
    obtain ⟨a, cap, rfl, hcap, hp⟩ := h
    rw [PE.size] at hm hs
    have hll := len_le_size l
    have hn := atB_new w #[.string ⟨k.toArray⟩, .string ⟨nm.toArray⟩, .int .i64 n, .slice a l.length cap] 24
    have hbl := (Below.refl w.heap.size w).alloc (Nat.le_refl _) (.cells #[.string ⟨k.toArray⟩, .string ⟨nm.toArray⟩, .int .i64 n, .slice a l.length cap] 24)
    have Hn := Lib.hid (And.intro hn hbl)
    have Hp := Lib.hid hp
    have Hih := Lib.hid ih
    clear hn hbl hp ih
    rw [PE.size]
    show Calls Tryz.prog 5 #[.agg #[.string ⟨k.toArray⟩, .string ⟨nm.toArray⟩, .int .i64 n, .slice a l.length cap]] w _
    go_enter Tryz.func5, Tryz.ntmps5
    go_wp2_with fail
    go_loopw [3, 8] (fun v3 v8 wr => ∃ j : Nat, j ≤ l.length ∧ v8 = .int .i64 j ∧ v3 = .int .i64 ((1 + PE.sizeL (l.take j) : Nat) : Int) ∧ Below w.heap.size w wr ∧ AtB wr w.heap.size 24 #[.string ⟨k.toArray⟩, .string ⟨nm.toArray⟩, .int .i64 n, .slice a l.length cap]) (fun _ v8 _ => l.length - (intOf v8).toNat)
    case atStart => exact ⟨0, Nat.zero_le _, rfl, rfl, Hn.out.2, Hn.out.1⟩
    case round =>
      obtain ⟨j, hj, rfl, rfl, hb, hat⟩ := hrel
      by_cases hlt : j < l.length
      · obtain ⟨e', he'⟩ : ∃ e', l[j]? = some e' := ⟨_, List.getElem?_eq_getElem hlt⟩
        obtain ⟨g, o, u, rfl, c0, c1, c2, c3, hu⟩ := PEsAt.at (Hp.out.below hb) he'
        rw [Nat.zero_add] at c0 c1 c2 c3
        unfold strV at c0 c1
        have d3 : wr.cell? ⟨w.heap.size, 3, none⟩ = some (.slice (some ⟨g, o, none⟩) l.length cap) := hat.cell 3
        have ht := sizeL_take l j e' he'
        have hle := sizeL_take_le l (j + 1)
        have hmem : e' ∈ l := List.mem_of_getElem? he'
        have hsz := sizeL_mem hmem
        have Hc := Lib.hid (Hih.out e' u wr (by omega) (by omega) hu)
        have hi0 : (0 : Int) ≤ (j : Int) := by omega
        have hi1 : (j : Int) < (l.length : Int) := by omega
        have hnn : ((1 + PE.sizeL (l.take j) : Nat) : Int) ≤ 1099511627776 := by omega
        have hn0 : (0 : Int) ≤ ((1 + PE.sizeL (l.take j) : Nat) : Int) := by omega
        have hes : (e'.size : Int) ≤ 1099511627776 := by omega
        obtain ⟨q, hq⟩ : ∃ q : Nat, 1 + PE.sizeL (l.take j) = q := ⟨_, rfl⟩
        rw [hq] at hnn hn0 ⊢
        have Hq := Lib.hid hq
        have Ht := Lib.hid ht
        have Hb := Lib.hid hb
        have Hat := Lib.hid hat
        clear hq ht hle hsz hmem hu hb hat he'
        unfold peVal strV at Hc
        go_wp2_with fail
        refine Hc.out.mono ?_
        rintro e w1 ⟨rfl, hb1⟩
        have Hb1 := Lib.hid hb1
        clear hb1
        go_wp2_with fail
        refine ⟨⟨j + 1, hlt, by go_num, ?_, Hb.out.trans (Hb1.out.mono Hb.out.size), Hat.out.below Hb1.out⟩, ?_⟩
        · rw [Ht.out, ← Hq.out]
          simp only [Value.int.injEq, true_and]
          omega
        · simp [intOf]
          omega
      · have ej : j = l.length := by omega
        subst ej
        rw [List.take_length]
        have Hb := Lib.hid hb
        clear hb hat
        go_wp2_with fail
        go_ret
        exact ⟨rfl, Hb.out⟩
end Go.Proofs.YthpianlilipggaaGreatDoor
