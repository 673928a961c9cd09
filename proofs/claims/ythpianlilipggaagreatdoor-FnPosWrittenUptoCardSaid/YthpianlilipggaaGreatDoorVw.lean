/- What is parsed is printed; a small text is read. Condition: the text is at most 2^24 letters; the tables of letters and of powers hold what they were laid with. -/
import Derived.Test.YthpianlilipggaaGreatDoorVv
namespace Go.Proofs.YthpianlilipggaaGreatDoor
open Go.RowKit Go.PlainAid

/-- The tables that the package reads hold what they were laid with, here and in every later world. -/
structure Tabs (w : World) : Prop where
  let' : Lib.TabBelow Tryz.prog w.heap.size w "unicode.properties" .u8 Lib.propertiesTab
  pow : Lib.TabBelow Tryz.prog w.heap.size w "internal/strconv.uint64pow10" .u64 Lib.pow10Tab
theorem Tabs.below {w w' : World} (h : Tabs w) (hb : Below w.heap.size w w') : Tabs w' :=
  ⟨fun W hW => h.let' W (hb.trans (hW.mono hb.size)), fun W hW => h.pow W (hb.trans (hW.mono hb.size))⟩
/-- What PrintPos leaves. -/
def PrintPost (y : PC) (w : World) (e : Ending) (w' : World) : Prop :=
  ∃ c, e = .returned (.tuple #[.string ⟨y.unp.toArray⟩, .string c, .bool true]) ∧ Below w.heap.size w w'
set_option maxHeartbeats 1000000 in
theorem PrintPos_c (y : PC) (w : World) (hok : y.ok = true) (hl : y.txt.length ≤ 16777216) (hT : Tabs w) :
    Calls Tryz.prog 9 #[.string ⟨y.txt.toArray⟩, .string ⟨#[120]⟩] w (PrintPost y w) := by
  have Hp := Lib.hid (Parse_c y w.heap.size w hok hl (Nat.le_refl _) hT.let')
  have Hg := Lib.hid (fun (W : World) (v : Value) (hb : Below w.heap.size w W) (h : PCAt W v y) => And.intro (pc_unp (hT.below hb).pow y v hok hl h) (pc_go (x := ⟨#[120]⟩) (hT.below hb).pow (Nat.le_refl 1) y v hok hl h))
  clear hok hT
  go_enter Tryz.func9, Tryz.ntmps9
  go_wp2_with fail
  refine Hp.out.mono ?_
  rintro e w1 ⟨v, rfl, hv, hb1⟩
  obtain ⟨T, p, rfl⟩ := hv.shape
  have Hs := Lib.hid (Hg.out w1 _ hb1 hv)
  have hb0 := Below.refl w1.heap.size w1
  have Hb1 := Lib.hid hb1
  clear hv hb1
  go_wp2_with (first
    | (((with_reducible show wpList _ _ _ ({ dst := some 17, op := .call { callee := .invoke _ _, args := _, argTypes := _ }, type := _, pos := _, after := _, guard := _ } :: _) _ _); refine wpList_invoke rfl (.tmp 16) "Unparse" #[] #[] rfl w1 _ #[] (Is y.unp) rfl (by simp) Hs.out.1 (by assumption) ?_; intro s1 w2 k1 hb2; have K1 := Lib.hid k1; clear hb0 k1))
    | (((with_reducible show wpList _ _ _ ({ dst := some 20, op := .call { callee := .invoke _ _, args := _, argTypes := _ }, type := _, pos := _, after := _, guard := _ } :: _) _ _); refine wpList_invoke rfl (.tmp 18) "PosExprToGo" #[.tmp 19] #[9] rfl w1 _ #[.string ⟨#[120]⟩] (Sh 1073741824) rfl (by simp only [List.map_toArray, List.map_cons, List.map_nil]; rfl) Hs.out.2 (by assumption) ?_; intro s2 w3 k2 hb3; have K2 := Lib.hid (below_next hb2 hb3 (Nat.le_refl _)); clear k2 hb2 hb3)))
  go_ret3
  refine ⟨s2, ?_, Hb1.out.trans (K2.out.mono Hb1.out.size)⟩
  rw [show s1 = ⟨y.unp.toArray⟩ from K1.out]
  rfl

theorem fill4 {w : World} {n : Nat} {T : TypeId} {a0 b0 c0 d0 : Value} (h : AtB w n T #[a0, b0, c0, d0]) (a b c d : Value) : AtB ((((w.setCell ⟨n, 0, none⟩ a).setCell ⟨n, 1, none⟩ b).setCell ⟨n, 2, none⟩ c).setCell ⟨n, 3, none⟩ d) n T #[a, b, c, d] := by
  have h1 := setCell_block (j := 0) (v := a) h
  have h2 := setCell_block (j := 1) (v := b) h1
  have h3 := setCell_block (j := 2) (v := c) h2
  exact setCell_block (j := 3) (v := d) h3
/-! ### Read as plain data: what the law asks of a small text -/
theorem ta_var_hit (p : Addr) (W : World) : (Instr.typeAssert (.iface 58 (.pointer (some p))) 57 58 true).run Tryz.prog W = .ok (.tuple #[.pointer (some p), .bool true]) W := by
  simp [Instr.typeAssert, run_underlying Tryz.underlying58]
theorem ta_pos_hit (p : Addr) (W : World) : (Instr.typeAssert (.iface 61 (.pointer (some p))) 57 61 true).run Tryz.prog W = .ok (.tuple #[.pointer (some p), .bool true]) W := by
  simp [Instr.typeAssert, run_underlying Tryz.underlying61]
theorem ta_pos_miss (p : Addr) (W : World) : (Instr.typeAssert (.iface 61 (.pointer (some p))) 57 58 true).run Tryz.prog W = .ok (.tuple #[.pointer none, .bool false]) W := by
  kernel_rfl
set_option maxHeartbeats 1000000 in
set_option maxRecDepth 20000 in
theorem ofVar_c (w : World) (k : Nat) (v : Bs) (h : VarAt w k v) :
    Calls Tryz.prog 17 #[.iface 58 (ptr k)] w fun e w' => e = .returned (.agg #[.string ⟨#[118, 97, 114]⟩, .string ⟨v.toArray⟩, .int .i64 0, .slice none 0 0]) ∧ Below w.heap.size w w' := by
  have c0 : w.cell? ⟨k, 0, none⟩ = some (.string ⟨v.toArray⟩) := AtB.cell h 0
  have hlt := AtB.lt h
  have hta := fun W => ta_var_hit ⟨k, 0, none⟩ W
  clear h
  unfold ptr
  go_enter Tryz.func17, Tryz.ntmps17
  go_wp2_with fail
  refine bodyPost_ret (v := .agg #[.string ⟨#[118, 97, 114]⟩, .string ⟨v.toArray⟩, .int .i64 0, .slice none 0 0]) (by simp [results, Tryz.results17, go_sem]) rfl ⟨rfl, ?_⟩
  exact (Below.refl _ _).alloc (Nat.le_refl _) _
set_option maxHeartbeats 1000000 in
set_option maxRecDepth 20000 in
theorem ofPos_c (w : World) (k kv : Nat) (v : Bs) (h : AtB w k 65 #[.iface 58 (ptr kv)]) (hv : VarAt w kv v) :
    Calls Tryz.prog 17 #[.iface 61 (ptr k)] w fun e w' => (∃ g, e = .returned (.agg #[.string ⟨#[112, 111, 115]⟩, .string ⟨#[]⟩, .int .i64 0, .slice (some ⟨g, 0, none⟩) 1 1])) ∧ Below w.heap.size w w' := by
  have c0 : w.cell? ⟨k, 0, none⟩ = some (.iface 58 (.pointer (some ⟨kv, 0, none⟩))) := h.cell 0
  have hlt := h.lt
  have h1 := fun W => ta_pos_miss ⟨k, 0, none⟩ W
  have h2 := fun W => ta_pos_hit ⟨k, 0, none⟩ W
  have hn := atB_new w #[.string ⟨#[]⟩, .string ⟨#[]⟩, .int .i64 0, .slice none 0 0] 24
  have hbl := (Below.refl w.heap.size w).alloc (Nat.le_refl _) (.cells #[.string ⟨#[]⟩, .string ⟨#[]⟩, .int .i64 0, .slice none 0 0] 24)
  have Hc := Lib.hid (ofVar_c (w.alloc (.cells #[.string ⟨#[]⟩, .string ⟨#[]⟩, .int .i64 0, .slice none 0 0] 24)) kv v (hv.below hbl))
  have Hn := Lib.hid (And.intro hn hbl)
  clear h hv hn hbl
  unfold ptr
  go_enter Tryz.func17, Tryz.ntmps17
  go_wp2_with fail
  refine Hc.out.mono ?_
  rintro e w1 ⟨rfl, hb⟩
  have hn1 := Hn.out.1.below hb
  have d0 : w1.cell? ⟨w.heap.size, 0, none⟩ = some (.string ⟨#[]⟩) := hn1.cell 0
  have d1 : w1.cell? ⟨w.heap.size, 1, none⟩ = some (.string ⟨#[]⟩) := hn1.cell 1
  have d2 : w1.cell? ⟨w.heap.size, 2, none⟩ = some (.int .i64 0) := hn1.cell 2
  have d3 : w1.cell? ⟨w.heap.size, 3, none⟩ = some (.slice none 0 0) := hn1.cell 3
  have f0 := hn1.free 0
  have f1 := hn1.free 1
  have f2 := hn1.free 2
  have f3 := hn1.free 3
  have hlt1 := hn1.lt
  have Hn1 := Lib.hid hn1
  have Hb := Lib.hid (Hn.out.2.trans (hb.mono Hn.out.2.size))
  clear hn1 hb
  go_wp2_with fail
  have hz := (fill4 Hn1.out (.string ⟨#[112, 111, 115]⟩) (.string ⟨#[]⟩) (.int .i64 0) (.slice (some ⟨w1.heap.size, 0, none⟩) 1 1)).below ((Below.refl _ _).alloc (Nat.le_refl _) (.cells #[.string ⟨#[118, 97, 114]⟩, .string ⟨v.toArray⟩, .int .i64 0, .slice none 0 0] 24))
  have z0 := hz.cell 0
  have z1 := hz.cell 1
  have z2 := hz.cell 2
  have z3 := hz.cell 3
  refine bodyPost_ret (v := .agg #[.string ⟨#[112, 111, 115]⟩, .string ⟨#[]⟩, .int .i64 0, .slice (some ⟨w1.heap.size, 0, none⟩) 1 1]) ?_ rfl ⟨⟨_, rfl⟩, ?_⟩
  · clear d0 d1 d2 d3 f0 f1 f2 f3 c0 h1 h2
    simp [results, Tryz.results17, go_sem, z0, z1, z2, z3]
  · exact ((((Hb.out.setCell (p := ⟨w.heap.size, 0, none⟩) (Nat.le_refl _) _).setCell (p := ⟨w.heap.size, 1, none⟩) (Nat.le_refl _) _).setCell (p := ⟨w.heap.size, 2, none⟩) (Nat.le_refl _) _).setCell (p := ⟨w.heap.size, 3, none⟩) (Nat.le_refl _) _).alloc (by have := Hb.out.size; simpa [World.setCell] using this) _
/-- The small text's expression. -/
def small : PC := ⟨⟨.pos (.one (.var [97])), []⟩, []⟩
set_option maxHeartbeats 1000000 in
set_option maxRecDepth 20000 in
theorem ReadPos_c (w : World) (hT : Tabs w) :
    Calls Tryz.prog 12 #[.string ⟨#[97, 46, 112, 111, 115]⟩] w fun e w' => (∃ g, e = .returned (.tuple #[.agg #[.string ⟨#[112, 111, 115]⟩, .string ⟨#[]⟩, .int .i64 0, .slice (some ⟨g, 0, none⟩) 1 1], .bool true])) ∧ Below w.heap.size w w' := by
  have hn := atB_new w #[.string ⟨#[]⟩, .string ⟨#[]⟩, .int .i64 0, .slice none 0 0] 24
  have hbl := (Below.refl w.heap.size w).alloc (Nat.le_refl _) (.cells #[.string ⟨#[]⟩, .string ⟨#[]⟩, .int .i64 0, .slice none 0 0] 24)
  have hp := Parse_c small (w.alloc (.cells #[.string ⟨#[]⟩, .string ⟨#[]⟩, .int .i64 0, .slice none 0 0] 24)).heap.size (w.alloc (.cells #[.string ⟨#[]⟩, .string ⟨#[]⟩, .int .i64 0, .slice none 0 0] 24)) (by decide) (by decide) (Nat.le_refl _) (hT.below hbl).let'
  rw [show small.txt.toArray = #[97, 46, 112, 111, 115] by decide] at hp
  have Hp := Lib.hid hp
  have Hn := Lib.hid (And.intro hn hbl)
  clear hn hbl hp hT
  go_enter Tryz.func12, Tryz.ntmps12
  go_wp2_with fail
  refine Hp.out.mono ?_
  rintro e w1 ⟨v, rfl, hv, hb⟩
  obtain ⟨_, v0, ha, had⟩ | ⟨k, g, cap, vs, hne, _⟩ := hv
  · obtain rfl : v = v0 := had
    obtain ⟨k, vn, rfl, hk, kv, rfl, hkv⟩ := ha
    have Hc := Lib.hid (ofPos_c w1 k kv [97] hk hkv)
    have hn1 := Hn.out.1.below hb
    have Hn1 := Lib.hid hn1
    have Hb := Lib.hid (Hn.out.2.trans (hb.mono Hn.out.2.size))
    clear hk hkv hn1 hb
    unfold ptr
    unfold ptr at Hc
    go_wp2_with fail
    refine Hc.out.mono ?_
    rintro e w2 ⟨⟨g, rfl⟩, hb2⟩
    have hn2 := Hn1.out.below hb2
    have d0 : w2.cell? ⟨w.heap.size, 0, none⟩ = some (.string ⟨#[]⟩) := hn2.cell 0
    have d1 : w2.cell? ⟨w.heap.size, 1, none⟩ = some (.string ⟨#[]⟩) := hn2.cell 1
    have d2 : w2.cell? ⟨w.heap.size, 2, none⟩ = some (.int .i64 0) := hn2.cell 2
    have d3 : w2.cell? ⟨w.heap.size, 3, none⟩ = some (.slice none 0 0) := hn2.cell 3
    have f0 := hn2.free 0
    have f1 := hn2.free 1
    have f2 := hn2.free 2
    have f3 := hn2.free 3
    have Hn2 := Lib.hid hn2
    have Hb2 := Lib.hid (Hb.out.trans (hb2.mono Hb.out.size))
    clear hn2 hb2
    go_wp2_with fail
    have hz := fill4 Hn2.out (.string ⟨#[112, 111, 115]⟩) (.string ⟨#[]⟩) (.int .i64 0) (.slice (some ⟨g, 0, none⟩) 1 1)
    have z0 := hz.cell 0
    have z1 := hz.cell 1
    have z2 := hz.cell 2
    have z3 := hz.cell 3
    refine bodyPost_ret (v := .tuple #[.agg #[.string ⟨#[112, 111, 115]⟩, .string ⟨#[]⟩, .int .i64 0, .slice (some ⟨g, 0, none⟩) 1 1], .bool true]) ?_ rfl ⟨⟨_, rfl⟩, ?_⟩
    · clear d0 d1 d2 d3 f0 f1 f2 f3
      simp [results, Tryz.results12, go_sem, z0, z1, z2, z3]
    · exact (((Hb2.out.setCell (p := ⟨w.heap.size, 0, none⟩) (Nat.le_refl _) _).setCell (p := ⟨w.heap.size, 1, none⟩) (Nat.le_refl _) _).setCell (p := ⟨w.heap.size, 2, none⟩) (Nat.le_refl _) _).setCell (p := ⟨w.heap.size, 3, none⟩) (Nat.le_refl _) _
  · exact absurd rfl hne
set_option maxHeartbeats 1000000 in
set_option maxRecDepth 20000 in
theorem readsPos_c (w : World) (hT : Tabs w) :
    Calls Tryz.prog 7 #[] w fun e w' => e = .returned (.bool true) ∧ Below w.heap.size w w' := by
  have Hr := Lib.hid (ReadPos_c w hT)
  clear hT
  go_enter Tryz.func7, Tryz.ntmps7
  go_wp2_with fail
  refine Hr.out.mono ?_
  rintro e w1 ⟨⟨g, rfl⟩, hb⟩
  have Hb := Lib.hid hb
  clear hb
  go_wp2_with fail
  go_ret
  exact ⟨rfl, Hb.out.alloc Hb.out.size _⟩
end Go.Proofs.YthpianlilipggaaGreatDoor
