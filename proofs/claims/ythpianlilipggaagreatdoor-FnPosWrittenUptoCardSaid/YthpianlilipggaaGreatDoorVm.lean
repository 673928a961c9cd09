/- Parse: an expression's text is parsed to that expression. Condition: the text is at most 2^24 letters; the table of letters holds what it was laid with. -/
import Derived.Test.YthpianlilipggaaGreatDoorVl
import Derived.Defers
import Derived.Recover
import Derived.Stop.Asserts
namespace Go.Proofs.YthpianlilipggaaGreatDoor
open Go.RowKit Go.PlainAid

theorem catch_none (p q : Addr) (w : World) :
    CallsD Tryz.prog 18 #[.pointer (some p), .pointer (some q)] .returning w fun e u' w' => e = .returned (.tuple #[]) ∧ u' = .returning ∧ w' = w := by
  refine callsD_of_wpS Tryz.func18 rfl fun c₀ cs hu => ?_
  apply wpS_seq
  apply wpS_region
  simp [wpOpsS, go_sem, recoverD, hu, Tryz.ntmps18, Exit.thenS]
  apply wpS_seq
  apply wpS_region
  simp [wpOpsS, go_sem, recoverD, hu, Exit.thenS]
  refine wpS_cond (t := false) (by simp [Act.eval]) ?_
  simp only [Bool.false_eq_true, if_false]
  refine wpS_of_wp (wp_skip ?_)
  cases c₀
  simp_all [bodyPostS, results, Tryz.results18]

/-- What Parse leaves. -/
def ParsePost (x : PC) (w : World) (e : Ending) (w' : World) : Prop :=
  ∃ v, e = .returned (.tuple #[v, .nilIface]) ∧ PCAt w' v x ∧ Below w.heap.size w w'
theorem PCAt.shape {w : World} {x : PC} {v : Value} (h : PCAt w v x) : ∃ T p, v = .iface T (.pointer (some p)) := by
  rcases h with ⟨_, h⟩ | ⟨k, g, cap, vs, _, e, _⟩
  · exact h.shape
  · exact ⟨_, _, e⟩
theorem PCAt.set {w : World} {x : PC} {v : Value} {n : Nat} (h : PCAt w v x) (hn : AtB w n 39 #[.nilIface]) (u : Value) : PCAt (w.setCell ⟨n, 0, none⟩ u) v x := by
  have hk : Kp tagsP w (w.setCell ⟨n, 0, none⟩ u) := fun k T C hT hC => hC.kept (Below.heap_setCell _ _ _ _ (hC.ne hn (by rintro rfl; revert hT; decide)))
  rcases h with ⟨e, h⟩ | ⟨k, g, cap, vs, hne, e, hA, hl, ⟨C, hC1, hC2⟩, hall⟩
  · exact Or.inl ⟨e, h.kept hk⟩
  · refine Or.inr ⟨k, g, cap, vs, hne, e, hA.kept (Below.heap_setCell _ _ _ _ (hA.ne hn (by decide))), hl, ⟨C, hC1.kept (Below.heap_setCell _ _ _ _ ?_), hC2⟩, hall.imp fun _ _ y => y.kept hk⟩
    show g ≠ n
    rintro rfl
    cases vs with
    | nil => exact hall.elim
    | cons v0 vs =>
      obtain ⟨T, p, rfl⟩ := hall.1.shape
      have h0 := hC2 0 _ rfl
      unfold AtB at hC1 hn
      rw [hC1] at hn
      simp at hn
      rw [hn] at h0
      simp at h0
def tagsC : List TypeId := tagsP ++ [71, 39]

theorem PCAt.kept {w w' : World} (h : Kp tagsC w w') {x : PC} {v : Value} : PCAt w v x → PCAt w' v x
  | Or.inl ⟨e, a⟩ => Or.inl ⟨e, a.kept (h.mono (by decide))⟩
  | Or.inr ⟨k, g, cap, vs, n, e, a, b, ⟨C, c, c'⟩, d⟩ => Or.inr ⟨k, g, cap, vs, n, e, h _ _ _ (by decide) a, b, ⟨C, h _ _ _ (by decide) c, c'⟩, d.imp fun _ _ x => x.kept (h.mono (by decide))⟩
theorem below_dn (B : Nat) (w : World) (n : Nat) : Below B w (w.drewN n) := ⟨rfl, rfl, rfl, Nat.le_refl _, fun _ _ => rfl⟩
set_option maxHeartbeats 4000000 in
set_option maxRecDepth 100000 in
theorem Parse_c (x : PC) (B : Nat) (w : World) (hok : x.ok = true) (hs : x.txt.length ≤ 16777216) (hB : B ≤ w.heap.size) (ht : Lib.TabBelow Tryz.prog B w "unicode.properties" .u8 Lib.propertiesTab) :
    Calls Tryz.prog 14 #[.string ⟨x.txt.toArray⟩] w (ParsePost x w) := by
  have hmf : ∀ (fn : Fn) (first cap : Array Value) (w : World), (Instr.makeFunc fn first cap).run Tryz.prog w = .ok (.func fn first cap) w := fun _ _ _ _ => rfl
  have hcl := PC.cln x hok
  have h128 : ∀ c ∈ x.txt, c.toNat < 128 := fun c hc => cln_lt (List.all_eq_true.1 hcl c hc)
  have hcv : ∀ W : World, (convert 9 51 (.string ⟨x.txt.toArray⟩)).run Tryz.prog W = .ok (.slice (some ⟨W.heap.size, 0, none⟩) x.txt.length (grownCap W x.txt.length 0 21)) (W.drew.alloc (.cells ((x.txt.map rn).toArray ++ Array.replicate (grownCap W x.txt.length 0 21 - x.txt.length) (.int .i32 0)) 21)) := fun W => by
    have := run_runes_of_string (P := Tryz.prog) W 9 51 21 ⟨x.txt.toArray⟩ Tryz.underlying9 Tryz.underlying51 Tryz.underlying21 (by rw [runesFrom_ascii _ h128]; simp; omega)
    rw [runesFrom_ascii _ h128] at this
    simpa using this
  go_enter_defers Tryz.func14, Tryz.ntmps14
  have hb2 := ((Below.refl w.heap.size w).alloc (Nat.le_refl _) (.cells #[.nilIface] 39)).alloc (by simp) (.cells #[.nilIface] 41)
  have e0 := (atB_new w #[.nilIface] 39).below ((Below.refl _ _).alloc (Nat.le_refl _) (.cells #[.nilIface] 41))
  have e1 := atB_new (w.alloc (.cells #[.nilIface] 39)) #[.nilIface] 41
  have hz1 : (w.alloc (.cells #[.nilIface] 39)).heap.size = w.heap.size + 1 := by simp
  have hz2 : ((w.alloc (.cells #[.nilIface] 39)).alloc (.cells #[.nilIface] 41)).heap.size = w.heap.size + 1 + 1 := by simp
  rw [hz1] at e1
  have Hx := Lib.hid (And.intro hb2 (And.intro e0 (And.intro e1 hz2)))
  clear hb2 e0 e1 hz1 hz2
  go_wp2_with fail
  have hge := grownCap_ge ((w.alloc (.cells #[.nilIface] 39)).alloc (.cells #[.nilIface] 41)) x.txt.length 0 21
  have hcm := grownCap_le_maxLen ((w.alloc (.cells #[.nilIface] 39)).alloc (.cells #[.nilIface] 41)) x.txt.length 0 21 (by unfold maxLen; omega)
  generalize grownCap ((w.alloc (.cells #[.nilIface] 39)).alloc (.cells #[.nilIface] 41)) x.txt.length 0 21 = cp at hge hcm ⊢
  unfold maxLen at hcm
  generalize ((w.alloc (.cells #[.nilIface] 39)).alloc (.cells #[.nilIface] 41)) = w2 at Hx ⊢
  obtain ⟨hb2, e0, e1, hz2⟩ := Hx.out
  clear Hx hcv
  have f0 := heap_alloc_new w2 (.cells ((x.txt.map rn).toArray ++ Array.replicate (cp - x.txt.length) (.int .i32 0)) 21)
  have hb3 := (Below.refl w2.heap.size w2).alloc (Nat.le_refl _) (.cells ((x.txt.map rn).toArray ++ Array.replicate (cp - x.txt.length) (.int .i32 0)) 21)
  have hz3 : (w2.alloc (.cells ((x.txt.map rn).toArray ++ Array.replicate (cp - x.txt.length) (.int .i32 0)) 21)).heap.size = w.heap.size + 1 + 1 + 1 := by simp [hz2]
  generalize w2.alloc (.cells ((x.txt.map rn).toArray ++ Array.replicate (cp - x.txt.length) (.int .i32 0)) 21) = w3 at f0 hb3 hz3 ⊢
  have hb4 := (Below.refl w3.heap.size w3).alloc (Nat.le_refl _) (.cells #[.slice (some ⟨w.heap.size + 1 + 1, 0, none⟩) x.txt.length cp, .int .i64 0] 53)
  have g0 := atB_new w3 #[.slice (some ⟨w.heap.size + 1 + 1, 0, none⟩) x.txt.length cp, .int .i64 0] 53
  generalize w3.alloc (.cells #[.slice (some ⟨w.heap.size + 1 + 1, 0, none⟩) x.txt.length cp, .int .i64 0] 53) = w4 at hb4 g0 ⊢
  have hb24 := hb3.trans (hb4.mono hb3.size)
  have hbl := hb2.trans (hb24.mono hb2.size)
  have E0 := Lib.hid (e0.below hb24)
  have E1 := Lib.hid (e1.below hb24)
  rw [hz3] at g0
  rw [hz2] at f0
  have hp : PsAt w4 B (w.heap.size + 1 + 1 + 1) (w.heap.size + 1 + 1) cp x.txt 0 := by
    refine ⟨g0, ⟨_, _, (hb4.block _ (by omega)).trans f0, fun j c hj => ?_⟩, hge, by omega, hs, hcl, Nat.zero_le _, by omega, Nat.le_trans hB hbl.size, fun W hW => ht W ((hbl.mono hB).trans hW)⟩
    have hj2 : j < x.txt.length := (List.getElem?_eq_some_iff.1 hj).1
    rw [Array.getElem?_append_left (by simpa using hj2)]
    simp [hj]
  have Hb := Lib.hid hbl
  have Hsk := Lib.hid (skip_c (hp.drewN 1))
  have Hp := Lib.hid (fun n => hp.drewN n)
  have Hpc := Lib.hid (fun n => parsePC_c x (w4.drewN n) hok (hp.drewN n) rfl)
  clear hb2 e0 e1 hz2 f0 hb3 hz3 hb4 g0 hb24 hbl hp ht hcl h128 hok
  refine Hsk.out.mono ?_
  rintro e w5 ⟨rfl, n5, rfl⟩
  go_wp2_with fail
  refine (Hpc.out _).mono ?_
  rintro e w6 ⟨v, rfl, hv6, hp6, ho6⟩
  obtain ⟨T, p, rfl⟩ := hv6.shape
  have q0 : AtB w6 w.heap.size 39 #[.nilIface] := (AtB.below E0.out (below_dn _ _ (1 + n5))).kept (ho6.block _ (by have := AtB.lt E0.out; show _ < w4.heap.size; omega) (by omega))
  have q1 : AtB w6 (w.heap.size + 1) 41 #[.nilIface] := (AtB.below E1.out (below_dn _ _ (1 + n5))).kept (ho6.block _ (by have := AtB.lt E1.out; show _ < w4.heap.size; omega) (by omega))
  have hv7 := hv6.set q0 (.iface T (.pointer (some p)))
  have r0 := setCell_block (j := 0) (v := .iface T (.pointer (some p))) q0
  have r1 : AtB (w6.setCell ⟨w.heap.size, 0, none⟩ (.iface T (.pointer (some p)))) (w.heap.size + 1) 41 #[.nilIface] := q1.kept (Below.heap_setCell _ _ _ _ (by show w.heap.size + 1 ≠ w.heap.size; omega))
  have hp7 : PsAt (w6.setCell ⟨w.heap.size, 0, none⟩ (.iface T (.pointer (some p)))) B (w.heap.size + 1 + 1 + 1) (w.heap.size + 1 + 1) cp x.txt (0 + x.txt.length) :=
    ⟨hp6.blk.kept (Below.heap_setCell _ _ _ _ (by show w.heap.size + 1 + 1 + 1 ≠ w.heap.size; omega)), hp6.row.kept (Below.heap_setCell _ _ _ _ (by show w.heap.size + 1 + 1 ≠ w.heap.size; omega)), hp6.capL, hp6.capS, hp6.small, hp6.clean, hp6.le, hp6.bb, by have := hp6.bw; simpa [World.setCell] using this, fun W hW => hp6.tab W (((Below.refl _ _).setCell (p := ⟨w.heap.size, 0, none⟩) hB _).trans hW)⟩
  have hbl : Below w.heap.size w (w6.setCell ⟨w.heap.size, 0, none⟩ (.iface T (.pointer (some p)))) :=
    ((Hb.out.trans (((below_dn _ _ (1 + n5)).mono Hb.out.size).trans (ho6.below (by omega) (by have := Hb.out.size; exact this)))).setCell (p := ⟨w.heap.size, 0, none⟩) (Nat.le_refl _) _)
  have heof := eof_c hp7
  rw [decide_eq_true (show x.txt.length ≤ 0 + x.txt.length by omega)] at heof
  have Heof := Lib.hid heof
  have hc0 := q0.free 0
  have hc00 := q0.cell 0
  have Hfin := Lib.hid (And.intro hv7 (And.intro r0 (And.intro r1 hbl)))
  clear hv6 hp6 ho6 q0 q1 hv7 r0 r1 hp7 hbl heof
  go_wp2_with fail
  refine Heof.out.mono ?_
  rintro e w8 ⟨rfl, n8, rfl⟩
  obtain ⟨hv7, r0, r1, hbl⟩ := Hfin.out
  generalize w6.setCell ⟨w.heap.size, 0, none⟩ (.iface T (.pointer (some p))) = w7 at hv7 r0 r1 hbl ⊢
  have Hfin2 := Lib.hid (And.intro hv7 (And.intro r0 (And.intro r1 hbl)))
  clear Hfin Heof hv7 r0 r1 hbl
  go_wp2_with fail
  refine leaves_cons (f := 18) (args := #[.pointer (some ⟨w.heap.size, 0, none⟩), .pointer (some ⟨w.heap.size + 1, 0, none⟩)]) (by simp) (by simp [go_sem]) ?_
  refine (catch_none ⟨w.heap.size, 0, none⟩ ⟨w.heap.size + 1, 0, none⟩ _).mono ?_
  rintro e u' w9 ⟨rfl, rfl, rfl⟩
  obtain ⟨hv7, r0, r1, hbl⟩ := Hfin2.out
  have hc1 : World.cell? (w7.drewN n8) ⟨w.heap.size, 0, none⟩ = some (.iface T (.pointer (some p))) := AtB.cell (C := #[.iface T (.pointer (some p))]) (show AtB (w7.drewN n8) w.heap.size 39 _ from r0) 0
  have hc2 : World.cell? (w7.drewN n8) ⟨w.heap.size + 1, 0, none⟩ = some .nilIface := AtB.cell (C := #[.nilIface]) (show AtB (w7.drewN n8) (w.heap.size + 1) 41 _ from r1) 0
  have hT : ParsePost x w (.returned (.tuple #[.iface T (.pointer (some p)), .nilIface])) (w7.drewN n8) := ⟨_, rfl, hv7.kept (Kp.of_below (below_dn _ _ n8)), hbl.trans (below_dn _ _ n8)⟩
  have hc3 : World.cell? w7 ⟨w.heap.size, 0, none⟩ = some (.iface T (.pointer (some p))) := hc1
  have hc4 : World.cell? w7 ⟨w.heap.size + 1, 0, none⟩ = some .nilIface := hc2
  simp [Leaves, settle, results, Tryz.results14, go_sem, hc3, hc4, Result.andThen]
  exact hT
end Go.Proofs.YthpianlilipggaaGreatDoor
