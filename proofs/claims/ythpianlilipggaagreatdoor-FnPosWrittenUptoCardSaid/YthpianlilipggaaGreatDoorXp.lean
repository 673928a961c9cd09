/- A position that the statement's datum reads is a tree in memory, of no more weight than the datum's bulk. No condition. -/
import Derived.Test.YthpianlilipggaaGreatDoorXo
import Derived.Test.YthpianlilipggaaGreatDoorRows
import Derived.OpenShut
import Derived.Deep.Slices
namespace Go.Proofs.YthpianlilipggaaGreatDoor
open Go.RowKit Go.PlainAid

theorem peTwo : Tryz.prog.cellsOf 24 = 4 := by kernel_rfl
theorem peStr : Tryz.prog.cellsOf 9 = 1 := by kernel_rfl
theorem peInt : Tryz.prog.cellsOf 3 = 1 := by kernel_rfl
theorem peRow : Tryz.prog.cellsOf 22 = 1 := by kernel_rfl
theorem PEsAt.mk {w : World} {a : Option Addr} : ∀ {l : List PE} {i : Nat},
    (∀ (j : Nat) (e : PE), l[j]? = some e → ∃ g o u, a = some ⟨g, o, none⟩ ∧ w.cell? ⟨g, o + (i + j) * 4, none⟩ = some (strV e.kind) ∧ w.cell? ⟨g, o + (i + j) * 4 + 1, none⟩ = some (strV e.name) ∧ w.cell? ⟨g, o + (i + j) * 4 + 2, none⟩ = some (.int .i64 e.num) ∧ w.cell? ⟨g, o + (i + j) * 4 + 3, none⟩ = some u ∧ PEAt w e u) → PEsAt w a i l
  | [], _, _ => trivial
  | e :: l, i, h => by
    refine ⟨?_, PEsAt.mk fun j e' he' => ?_⟩
    · have := h 0 e rfl
      rwa [Nat.add_zero] at this
    · have := h (j + 1) e' he'
      rwa [show i + (j + 1) = i + 1 + j by omega] at this
theorem wtL_le {H : Type} (f : Nat → PE) (D : Nat → DataW H) : ∀ (l : List Nat), (∀ i ∈ l, (f i).wt ≤ Rows.uptoBulk (D i)) → PE.wtL (l.map f) ≤ Rows.uptoBulkAll (l.map D)
  | [], _ => by simp [PE.wtL, Rows.uptoBulkAll]
  | i :: l, h => by
    have h1 := h i (by simp)
    have h2 := wtL_le f D l fun j hj => h j (by simp [hj])
    simp only [List.map_cons, PE.wtL, Rows.uptoBulkAll]
    omega
theorem bulk_mem {H : Type} (D : Nat → DataW H) : ∀ (l : List Nat) (i : Nat), i ∈ l → Rows.uptoBulk (D i) ≤ Rows.uptoBulkAll (l.map D)
  | j :: l, i, h => by
    simp only [List.map_cons, Rows.uptoBulkAll]
    rcases List.mem_cons.1 h with rfl | h
    · omega
    · have := bulk_mem D l i h
      omega
theorem strV_of (s : ByteArray) : strV s.data.toList = .string s := by
  unfold strV
  rw [Array.toArray_toList]

theorem len_four {α : Type} {l : List α} (h : l.length = 4) : ∃ a b c d, l = [a, b, c, d] := by
  match l, h with
  | [a, b, c, d], _ => exact ⟨a, b, c, d, rfl⟩
set_option maxRecDepth 20000 in
theorem open_pe {H : Type} {enc : TypeId × Value → H} {w : World} {base : Nat} {spare : Nat → Bool} {held : Bool} : ∀ (m fuel : Nat) (cs : List Value) (x : DataW H × List MemPlace), Rows.uptoBulk x.1 ≤ m →
    DataW.trod enc Tryz.prog w base spare held fuel 24 cs = some x → ∃ (e : PE) (v : Value), cs = [strV e.kind, strV e.name, .int .i64 e.num, v] ∧ PEAt w e v ∧ e.wt ≤ Rows.uptoBulk x.1 := by
  intro m
  induction m with
  | zero =>
    intro fuel cs x hm h
    obtain ⟨xs, n, _, rfl, _⟩ := DataW.trod_struct Tryz.underlying24 h
    simp only [Rows.uptoBulk] at hm
    omega
  | succ m ih =>
    intro fuel cs x hm h
    obtain ⟨xs, n, _, rfl, hcl, hxl, hf⟩ := DataW.trod_struct Tryz.underlying24 h
    rw [peTwo] at hcl
    have hx4 : xs.length = 4 := hxl
    clear hxl
    obtain ⟨y0, y1, y2, y3, rfl⟩ := len_four hx4
    obtain ⟨c0, c1, c2, c3, rfl⟩ := len_four hcl
    · have g0 := hf 0 _ rfl
      have g1 := hf 1 _ rfl
      have g2 := hf 2 _ rfl
      have g3 := hf 3 _ rfl
      simp [peStr, peInt, peRow] at g0 g1 g2 g3
      obtain ⟨s0, e0, rfl, _⟩ := DataW.trod_string Tryz.underlying9 g0
      obtain ⟨s1, e1, rfl, _⟩ := DataW.trod_string Tryz.underlying9 g1
      obtain ⟨z, e2, rfl, _⟩ := DataW.trod_int Tryz.underlying3 g2
      cases e0
      cases e1
      cases e2
      rcases Go.Deep.open_slice Tryz.underlying22 g3 with ⟨e3, rfl⟩ | ⟨a, len, cap, k, q, D, Pl, e3, hb, hlc, hcm, hk, rfl, hx⟩
      · cases e3
        refine ⟨.mk s0.data.toList s1.data.toList z [], .slice none 0 0, ?_, ⟨none, 0, rfl, Nat.le_refl _, trivial⟩, ?_⟩
        · simp only [PE.kind, PE.name, PE.num, strV_of]
        · simp only [PE.wt, PE.wtL, List.map_cons, List.map_nil, Rows.uptoBulk, Rows.uptoBulkAll]
          omega
      · cases e3
        simp only [List.map_cons, List.map_nil, Rows.uptoBulk, Rows.uptoBulkAll] at hm
        have hlk : len ≤ k := by rw [hk]; split <;> omega
        have each : ∀ i, i < len → ∃ r : PE × Value, w.cell? (a.add (i * 4)) = some (strV r.1.kind) ∧ w.cell? (a.add (i * 4 + 1)) = some (strV r.1.name) ∧ w.cell? (a.add (i * 4 + 2)) = some (.int .i64 r.1.num) ∧ w.cell? (a.add (i * 4 + 3)) = some r.2 ∧ PEAt w r.1 r.2 ∧ r.1.wt ≤ Rows.uptoBulk (D i) := by
          intro i hi
          obtain ⟨cs', h1, h2⟩ := hx i (by omega)
          rw [peTwo] at h1
          obtain ⟨_, _, hcell⟩ := World.cells?_some h1
          have hbm := bulk_mem D (List.range len) i (List.mem_range.2 hi)
          obtain ⟨e, v, rfl, hv, hwt⟩ := ih q cs' (D i, Pl i) (show Rows.uptoBulk (D i) ≤ m by omega) h2
          have k0 := hcell 0 (by omega)
          have k1 := hcell 1 (by omega)
          have k2 := hcell 2 (by omega)
          have k3 := hcell 3 (by omega)
          rw [Go.Deep.add_add] at k0 k1 k2 k3
          exact ⟨(e, v), by simpa using k0, by simpa using k1, by simpa using k2, by simpa using k3, hv, hwt⟩
        haveI : Inhabited (PE × Value) := ⟨(.mk [] [] 0 [], .bool false)⟩
        obtain ⟨r, hr⟩ := Go.Deep.choose_lt each
        refine ⟨.mk s0.data.toList s1.data.toList z ((List.range len).map fun i => (r i).1), .slice (some a) len cap, ?_, ⟨some a, cap, by simp, by simpa using hlc, PEsAt.mk fun j e he => ?_⟩, ?_⟩
        · simp only [PE.kind, PE.name, PE.num, strV_of]
        · obtain ⟨hj, he⟩ := List.getElem?_eq_some_iff.1 he
          have hjl : j < len := by simpa using hj
          have he : (r j).1 = e := by simpa using he
          subst he
          obtain ⟨k0, k1, k2, k3, k4, _⟩ := hr j hjl
          have hsp : a.spot = none := by
            have h0 := (hr 0 (by omega)).1
            rw [Nat.zero_mul] at h0
            unfold Addr.add at h0
            rw [if_pos rfl] at h0
            unfold World.cell? at h0
            split at h0
            · split at h0
              · cases h0
              · rename_i hs
                simpa using hs
            · cases h0
          obtain ⟨g, o, sp⟩ := a
          cases hsp
          have hadd : ∀ n : Nat, (⟨g, o, none⟩ : Addr).add n = ⟨g, o + n, none⟩ := by
            intro n
            unfold Addr.add
            split <;> simp_all
          rw [hadd] at k0 k1 k2 k3
          exact ⟨g, o, _, rfl, by rw [Nat.zero_add]; exact k0, by rw [Nat.zero_add]; exact k1, by rw [Nat.zero_add]; exact k2, by rw [Nat.zero_add]; exact k3, k4⟩
        · have := wtL_le (fun i => (r i).1) D (List.range len) fun i hi => (hr i (List.mem_range.1 hi)).2.2.2.2.2
          simp only [PE.wt, List.map_cons, List.map_nil, Rows.uptoBulk, Rows.uptoBulkAll]
          omega
end Go.Proofs.YthpianlilipggaaGreatDoor
