/- The reference's tokens of a text are the plain ones. Condition: the text is at most 2^38 bytes long. -/
import Derived.Test.YtkhjenlclpcehaaDoorWl
import Derived.Test.YtkhjenlclpcehaaDoorBc
import Derived.Deep.RegionLaw
namespace Go.Proofs.YtkhjenlclpcehaaDoor
open Go.RowKit Go.PlainAid

/-- What the reference's tokens are in memory: a list, or (a fault) some list and a place. -/
def LexPost (s : ByteArray) (w : World) (e : Ending) (w' : World) : Prop :=
  Below w.heap.size w w' ∧ match specLex s with
  | none => ∃ (v : Value) (ts : List (TokD × Value)) (a : Nat) (A : Option Addr) (c : Nat), e = .returned (.tuple #[v, .int .i64 a, .bool false]) ∧ v = .slice A ts.length c ∧ TokRow w' w.heap.size v ts
  | some l => ∃ (v : Value) (ts : List (TokD × Value)) (A : Option Addr) (c : Nat), e = .returned (.tuple #[v, .int .i64 0, .bool true]) ∧ v = .slice A ts.length c ∧ TokRow w' w.heap.size v ts ∧ ts.map Prod.fst = l

def x0 (cm : Value) (sp : ByteArray) : TokS := ⟨⟨#[]⟩, sp, ⟨#[]⟩, ⟨#[]⟩, 0, 0, 0, cm⟩
theorem tokAt_new (w : World) : TokAt (w.alloc (.cells #[.string ⟨#[]⟩, .string ⟨#[]⟩, .string ⟨#[]⟩, .string ⟨#[]⟩, .int .i64 0, .int .i64 0, .int .i64 0, .slice none 0 0] 30)) w.heap.size (x0 (.slice none 0 0) ⟨#[]⟩) := by
  show (w.heap.push _)[w.heap.size]? = _
  simp [x0]

theorem grown_tok {w w1 : World} {o : Obj} {b : Nat} {x : TokS} {row : Option Nat} (ht : TokAt w b x) (hg : ((w.alloc o).drew).grownBy w1 row) (hne : row ≠ some b) : TokAt w1 b x := by
  refine ht.kept ?_
  rw [hg.block b (by have := ht.lt; simp; omega) (fun h => hne h.symm)]
  exact Below.heap_alloc w o b ht.lt
theorem grown_below {w w0 w1 : World} {o : Obj} {B : Nat} {v : Value} {e s n : Nat} {xs : List Value} (hb : Below B w0 w) (hB : B ≤ w.heap.size) (hown : w.ownsRow B e s v n xs) (hg : ((w.alloc o).drew).grownBy w1 v.ownBlock) : Below B w0 w1 :=
  (((hb.alloc hB o).drew).grown hg (by simp; omega) (fun k hk => (hown.lt k hk).1))
theorem grown_tok2 {w w1 : World} {o : Obj} {b : Nat} {x : TokS} {row : Option Nat} (ht : TokAt w b x) (hg : (w.alloc o).grownBy w1 row) (hne : row ≠ some b) : TokAt w1 b x := by
  refine ht.kept ?_
  rw [hg.block b (by have := ht.lt; simp; omega) (fun h => hne h.symm)]
  exact Below.heap_alloc w o b ht.lt
theorem lexPost_bad' {s : ByteArray} {w w' : World} {A : Option Addr} {c a n : Nat} {ts : List (TokD × Value)} (h : specLex s = none) (hb : Below w.heap.size w w') (hn : n = ts.length) (ht : TokRow w' w.heap.size (.slice A n c) ts) :
    LexPost s w (.returned (.tuple #[.slice A n c, .int .i64 a, .bool false])) w' := by
  subst hn
  refine ⟨hb, ?_⟩
  rw [h]
  exact ⟨_, ts, a, A, c, rfl, rfl, ht⟩
theorem lexPost_good {s : ByteArray} {w w' : World} {A : Option Addr} {c n : Nat} {ts : List (TokD × Value)} {l : List TokD} (h : specLex s = some l) (hb : Below w.heap.size w w') (hn : n = ts.length) (ht : TokRow w' w.heap.size (.slice A n c) ts) (hl : ts.map Prod.fst = l) :
    LexPost s w (.returned (.tuple #[.slice A n c, .int .i64 0, .bool true])) w' := by
  subst hn
  refine ⟨hb, ?_⟩
  rw [h]
  exact ⟨_, ts, A, c, rfl, rfl, ht, hl⟩
theorem lexPost_bad {s : ByteArray} {w w' : World} {A : Option Addr} {c a : Nat} {ts : List (TokD × Value)} (h : specLex s = none) (hb : Below w.heap.size w w') (ht : TokRow w' w.heap.size (.slice A ts.length c) ts) :
    LexPost s w (.returned (.tuple #[.slice A ts.length c, .int .i64 a, .bool false])) w' := by
  refine ⟨hb, ?_⟩
  rw [h]
  exact ⟨_, ts, a, A, c, rfl, rfl, ht⟩

set_option maxHeartbeats 12800000 in
set_option maxRecDepth 100000 in
theorem Lex_c (s : ByteArray) (w : World) (hs : s.size ≤ 274877906944) :
    Calls Tryd.prog 7 #[.string s] w (LexPost s w) := by
  obtain ⟨ic, hic, hcz0, hcz1, hcz2⟩ := info_parts info_cmt
  obtain ⟨it, hit, htz0, htz1, htz2⟩ := info_parts info_tok
  go_enter Tryd.func7, Tryd.ntmps7
  go_wp2_with fail
  go_loopg [5, 6] (s.size + 2) (fun kq v5 v6 wr => ∃ (i : Nat) (ts : List (TokD × Value)) (A : Option Addr) (c : Nat), v5 = .slice A ts.length c ∧ v6 = .int .i64 i ∧ i ≤ s.size ∧ ts.length ≤ i ∧ s.size + 2 ≤ i + kq ∧ TokRow wr w.heap.size v5 ts ∧ Below w.heap.size w wr ∧ Hid (lexFrom s kq i (ts.map Prod.fst) = specLex s))
  case atStart => exact ⟨0, [], none, 0, rfl, rfl, by omega, by simp, by omega, TokRow.nil _ _, Below.refl _ _, rfl⟩
  case round =>
    obtain ⟨i, ts, A, c, rfl, rfl, hi, hlen, hfu, hrow, hbw, hr⟩ := hrel
    obtain ⟨f, rfl⟩ : ∃ g, gk = g + 1 := ⟨gk - 1, by omega⟩
    obtain ⟨wo, rfl⟩ : ∃ wo : World, wo = wr := ⟨_, rfl⟩
    go_upto_block 2 with fail
    have hx0 := tokAt_new wo
    have hal : Below wo.heap.size wo (wo.alloc (.cells #[.string ⟨#[]⟩, .string ⟨#[]⟩, .string ⟨#[]⟩, .string ⟨#[]⟩, .int .i64 0, .int .i64 0, .int .i64 0, .slice none 0 0] 30)) := (Below.refl _ _).alloc (Nat.le_refl _) _
    have hwb := hbw.size
    obtain ⟨W1, hW1⟩ : ∃ W1, wo.alloc (.cells #[.string ⟨#[]⟩, .string ⟨#[]⟩, .string ⟨#[]⟩, .string ⟨#[]⟩, .int .i64 0, .int .i64 0, .int .i64 0, .slice none 0 0] 30) = W1 := ⟨_, rfl⟩
    rw [hW1] at hx0 hal
    rw [hW1]
    clear hW1
    obtain ⟨b, hb⟩ : ∃ b, wo.heap.size = b := ⟨_, rfl⟩
    rw [hb] at hx0 hal hwb
    rw [hb]
    have Hb := Lib.hid hb
    clear hb
    go_cut [6] (fun v6 wc => ∃ (cs : List CmtD) (fr k : Nat) (cv : Value), v6 = .int .i64 k ∧ i ≤ k ∧ k ≤ s.size ∧ fr ≤ k ∧ TokAt wc b (x0 cv (s.extract fr k)) ∧ CmtRow wc w.heap.size cv cs ∧ Below b wo wc ∧ Hid (gapFrom s (s.size + 1) i [] = some (cs, fr, k)))
    case first =>
      go_wp2_with fail
      go_loopw [6] (fun v6 wr => ∃ (kq j : Nat) (cs : List CmtD) (cv : Value), v6 = .int .i64 j ∧ i ≤ j ∧ j ≤ s.size ∧ cs.length ≤ j ∧ s.size + 1 ≤ j + kq ∧ TokAt wr b (x0 cv ⟨#[]⟩) ∧ CmtRow wr b cv cs ∧ Below b wo wr ∧ Hid (gapFrom s kq j cs = gapFrom s (s.size + 1) i [])) (fun v6 _ => s.size - (intOf v6).toNat)
      case atStart => exact ⟨s.size + 1, i, [], .slice none 0 0, rfl, by omega, by omega, by simp, by omega, hx0, CmtRow.nil _ _, hal, rfl⟩
      case round =>
        obtain ⟨gk, j, cs, cv, rfl, hij, hj, hcl, hfu2, htk, hcr, hbx, hr2⟩ := hrel
        obtain ⟨f2, rfl⟩ : ∃ g, gk = g + 1 := ⟨gk - 1, by omega⟩
        have hk1 := blanksEnd_ge s j
        have hk2 := blanksEnd_le s j hj
        have hbl := lBlanks_c s j wr (by omega) hj
        have g1 := fun h => gapFrom_none (s := s) (f := f2) (i := j) (cs := cs) h
        have g2 := fun h => gapFrom_done (s := s) (f := f2) (i := j) (cs := cs) h
        have g3 := fun e h hne => gapFrom_go (s := s) (f := f2) (i := j) (cs := cs) (e := e) h hne
        obtain ⟨k, hk⟩ : ∃ k, blanksEnd s j = k := ⟨_, rfl⟩
        rw [hk] at hk1 hk2 hbl
        simp only [hk] at g1 g2 g3
        clear hk
        have hcm := lComment_c s k wr (by omega) hk2
        have Hbl := Lib.hid hbl
        have G1 := Lib.hid g1
        have G2 := Lib.hid g2
        have G3 := Lib.hid g3
        clear hbl g1 g2 g3
        cases hce : commentEnd s k with
        | none =>
          rw [hce] at hcm
          have hcm2 : Hid (Calls Tryd.prog 11 #[.string s, .int .i64 k] wr fun e w' => e = .returned (.int .i64 (-1)) ∧ wr = w') := hcm
          clear hcm
          have hbad : Hid (specLex s = none) := by show _ = _; rw [← hr.out]; exact lexFrom_gap (by rw [← hr2.out]; exact G1.out hce)
          clear hce
          go_wp2_with (first
            | (go_at_call 10; refine Hbl.out.mono ?_; rintro e w' ⟨rfl, rfl⟩)
            | (go_at_call 11; refine hcm2.out.mono ?_; rintro e w' ⟨rfl, rfl⟩))
          go_ret3
          exact lexPost_bad hbad.out (hbw.trans (hbx.mono hwb)) (hrow.below (by rw [Hb.out]; exact hbx))
        | some e =>
          obtain ⟨he1, he2⟩ := commentEnd_le hk2 hce
          rw [hce] at hcm
          have hcm2 : Hid (Calls Tryd.prog 11 #[.string s, .int .i64 k] wr fun e' w' => e' = .returned (.int .i64 (e : Int)) ∧ wr = w') := hcm
          clear hcm
          by_cases hek : e = k
          · subst hek
            have hg := Lib.hid (G2.out hce)
            clear hce
            have hf1 := htk.free 1
            have hc1 := htk.cell1
            go_wp2_with (first
              | (go_at_call 10; refine Hbl.out.mono ?_; rintro e w' ⟨rfl, rfl⟩)
              | (go_at_call 11; refine hcm2.out.mono ?_; rintro e w' ⟨rfl, rfl⟩))
            go_meet
            case rel => exact ⟨cs, j, e, cv, rfl, by omega, hk2, hk1, htk.setSpace _, (hcr.base hwb).only htk ((Only.refl b wr).setCell 1 _), hbx.setCell (p := ⟨b, 1, none⟩) (Nat.le_refl _) _, by show _ = _; rw [← hr2.out]; exact hg.out⟩
          · have hg := Lib.hid (G3.out e hce hek)
            have hne : ((e : Int) == (k : Int)) = false := by simp; omega
            clear hce
            go_wp2_with (first
              | (go_at_call 10; refine Hbl.out.mono ?_; rintro e w' ⟨rfl, rfl⟩)
              | (go_at_call 11; refine hcm2.out.mono ?_; rintro e w' ⟨rfl, rfl⟩))
            have hf7 := htk.free 7
            obtain ⟨hcrow, A2, c2, rfl⟩ := hcr
            have hc7 : wr.cell? ⟨b, 7, none⟩ = some (.slice A2 cs.length c2) := htk.cell7
            have htlt := htk.lt
            have hjI : (0 : Int) ≤ (j : Int) := by omega
            have hjk : (j : Int) ≤ (k : Int) := by omega
            have hks : (k : Int) ≤ (s.size : Int) := by omega
            have hke : (k : Int) ≤ (e : Int) := by omega
            have hes : (e : Int) ≤ (s.size : Int) := by omega
            go_region_law (refine step_append_lies _ rfl (.tmp 34) (.tmp 46) 28 rfl b 33 ic (.agg #[.string ⟨#[]⟩, .string ⟨#[]⟩, .int .i64 0, .int .i64 0]) 4 48 Tryd.underlying28 hic hcz0 hcz1 hcz2 rfl (by decide) (.slice A2 cs.length c2) cs.length (cs.flatMap cmtCells) (by simp [Act.eval, Act.put]) ((hcrow.alloc _).drew) ⟨wr.heap.size, 0, none⟩ 1 1 (cmtCells ⟨s.extract j k, s.extract k e, k, e⟩) (by simp [Act.eval, Act.put]) rfl (fun q u h => cells_new wr #[.string (s.extract j k), .string (s.extract k e), .int .i64 k, .int .i64 e] 33 q u h) (by intro u hu; simp [cmtCells] at hu; rcases hu with rfl | rfl | rfl | rfl <;> rfl) (by omega) (by unfold maxLen; omega) (by omega) (by simp; omega) _ rfl ?_; intro g cap w1 hown hgrow hat hlt; have ht1 := grown_tok htk hgrow (own_tag_ne hcrow htk (by decide)); have hq7 := ht1.cell7; have hz7 := ht1.free 7)
            all_goals
              have hbw1 := grown_below (by exact hbx) (Nat.le_of_lt htlt) hcrow hgrow
              have hcr1 := cmt_push (c := ⟨s.extract j k, s.extract k e, k, e⟩) rfl rfl hown
              clear hown hgrow hcrow hbx
              go_wp2_with fail
              go_roundw
              case measure =>
                simp [intOf]
                omega
              case rel =>

                exact ⟨f2, e, cs ++ [⟨s.extract j k, s.extract k e, k, e⟩], .slice (some ⟨g, 0, none⟩) (cs.length + 1) cap, rfl, by omega, by omega, by simp; omega, by omega, ht1.setCm _, hcr1.only ht1 ((Only.refl b w1).setCell 7 _), hbw1.setCell (p := ⟨b, 7, none⟩) (Nat.le_refl _) _, by show _ = _; rw [← hr2.out]; exact hg.out.symm⟩
    case rest =>
      obtain ⟨cs, fr, k, cv, rfl, hik, hk, hfr, htk, hcr, hbx, hg⟩ := hcut
      have hrow2 := hrow.below (by rw [Hb.out]; exact hbx)
      obtain ⟨bef, hbef⟩ : ∃ bef, lastKind (ts.map Prod.fst) = bef := ⟨_, rfl⟩
      obtain ⟨pth, hpth⟩ : ∃ pth, pathB (ts.map Prod.fst) = pth := ⟨_, rfl⟩
      obtain ⟨n, hn⟩ : ∃ n, ts.length = n := ⟨_, rfl⟩
      rw [hn] at hrow2
      rw [hn]
      have hnk : n ≤ i := by omega
      have Hn := Lib.hid hn
      clear hn
      go_upto_if 52 with fail
      go_cut [10, 11] (fun v10 v11 wc2 => v10 = .string bef ∧ v11 = .bool pth ∧ wc = wc2)
      case first => as_aux_lemma =>
        clear hbx hcr htk hg hrow hbw
        have h3 : n = 0 ∨ n = 1 ∨ ∃ q, n = q + 2 := by
          cases n with
          | zero => left; rfl
          | succ m => cases m with
            | zero => right; left; rfl
            | succ q => right; right; exact ⟨q, rfl⟩
        have hnl := Hn.out
        clear hlen
        rcases h3 with rfl | rfl | ⟨q, rfl⟩
        · obtain rfl : ts = [] := List.length_eq_zero_iff.1 hnl
          obtain rfl : bef = ⟨#[]⟩ := by rw [← hbef]; rfl
          obtain rfl : pth = false := by rw [← hpth]; exact pathB_nil
          clear hbef hpth
          go_wp2_with fail
          go_meet
          case rel => exact ⟨rfl, rfl, rfl⟩
        · obtain ⟨g, cap, hv, _, _⟩ := hrow2.1.form (by omega)
          have hk0 := lastKind_eq (m := 0) hnl
          rw [hbef] at hk0
          obtain rfl : pth = false := by rw [← hpth]; exact pathB_one hnl
          simp at hv
          obtain ⟨rfl, hvn, rfl⟩ := hv
          clear hvn
          have hc0 : wc.cell? ⟨g, 0, none⟩ = some (.string bef) := by
            have := tokRow_kind hrow2 0 (by omega)
            rw [← hk0] at this
            simpa using this
          clear hbef hpth hrow2 hk0 hnl
          go_wp2_with (go_at_call 12; refine (lDotted_c _ _).mono ?_; rintro e w' ⟨rfl, rfl⟩)
          all_goals
            go_meet
            case rel => exact ⟨rfl, rfl, rfl⟩
        · obtain ⟨g, cap, hv, _, _⟩ := hrow2.1.form (by omega)
          have hk0 := lastKind_eq (m := q + 1) hnl
          have hp2 := pathB_two hnl
          rw [hbef] at hk0
          rw [hpth, ← hk0] at hp2
          simp at hv
          obtain ⟨rfl, hvn, rfl⟩ := hv
          clear hvn
          obtain ⟨kq, hkq⟩ : ∃ kq, (ts[q]'(by omega)).1.kind = kq := ⟨_, rfl⟩
          rw [hkq] at hp2
          have hc1 : wc.cell? ⟨g, (q + 1) * 8, none⟩ = some (.string bef) := by
            have := tokRow_kind hrow2 (q + 1) (by omega)
            rwa [← hk0] at this
          have hc2 : wc.cell? ⟨g, q * 8, none⟩ = some (.string kq) := by
            have := tokRow_kind hrow2 q (by omega)
            rwa [hkq] at this
          have hq1 : q ≤ 274877906944 := by omega
          have Hp2 := Lib.hid hp2
          clear hbef hpth hrow2 hk0 hnl hkq hp2
          go_wp2_with (go_at_call 12; refine (lDotted_c _ _).mono ?_; rintro e w' ⟨rfl, rfl⟩)
          all_goals
            go_meet
            case rel => exact ⟨rfl, by rw [Hp2.out]; simp [*], rfl⟩
      case rest =>
        obtain ⟨rfl, rfl, rfl⟩ := hcut
        clear hx0 hal
        have hf5 := htk.free 5
        have hc5 := htk.cell5
        have hblt := htk.lt
        have hafter : Hid (afterB (ts.map Prod.fst) = dottedB bef) := by show _ = _; unfold afterB; rw [hbef]
        have hpth' := Lib.hid hpth
        have hgrow1 : Hid (∀ k2, (Value.slice A n c).ownBlock = some k2 → k2 < b) := by
          intro k2 hk2
          have := (hrow.1.lt k2 (by rw [Hn.out]; exact hk2)).2
          rw [Hb.out] at this
          exact this
        have hrowH := Lib.hid hrow
        have htk5 := htk.setPos (k : Int)
        have hcr5 := hcr.only htk ((Only.refl b wc).setCell 5 (.int .i64 (k : Int)))
        have hbx5 := hbx.setCell (p := ⟨b, 5, none⟩) (Nat.le_refl _) (.int .i64 (k : Int))
        clear hpth hbef hrow hrow2 hcr hbx
        obtain ⟨W5, hW5⟩ : ∃ W5, wc.setCell ⟨b, 5, none⟩ (.int .i64 (k : Int)) = W5 := ⟨_, rfl⟩
        rw [hW5] at htk5 hcr5 hbx5
        have htok := Lib.hid (lToken_c s k b _ pth (dottedB bef) W5 (by omega) htk5 hk)
        have HW5 := Lib.hid hW5
        clear hW5
        go_wp2_with (go_at_call 12; refine (lDotted_c _ _).mono ?_; rintro e w' ⟨rfl, rfl⟩)
        rw [HW5.out]
        refine htok.out.mono ?_
        intro e w' hp
        have hgt := fun r h => tokOf_gt (r := r) hk (h : tokOf s k pth (dottedB bef) = some r)
        cases hto : tokOf s k pth (dottedB bef) with
        | none =>
          have hbad : Hid (specLex s = none) := by show _ = _; rw [← hr.out]; exact lexFrom_tok hg.out (by rw [hpth'.out, hafter.out]; exact hto)
          rw [hto] at hp
          obtain ⟨⟨m, rfl⟩, hw2⟩ := hp
          have hb2 := hbx5.trans (hw2.below (Nat.le_refl _) (by have := htk5.lt; omega))
          clear hto hgt htok htk htk5 hcr5 hbx5 HW5 hf5 hc5
          go_wp2_with fail
          go_ret3
          exact lexPost_bad' hbad.out (hbw.trans (hb2.mono hwb)) Hn.out.symm (by have := hrowH.out.below (by rw [Hb.out]; exact hb2); rw [Hn.out] at this; exact this)
        | some r =>
          obtain ⟨hr1, hr2, hr3⟩ := hgt r hto
          rw [hto] at hp
          obtain ⟨rfl, ht2, hw2⟩ := hp
          obtain ⟨hc2own, A3, c3, rfl⟩ := hcr5
          have hcr2 : CmtRow w' w.heap.size (.slice A3 cs.length c3) cs := CmtRow.only ⟨hc2own, A3, c3, rfl⟩ htk5 hw2
          have hb2 := hbx5.trans (hw2.below (Nat.le_refl _) (by have := htk5.lt; omega))
          have hkr : k ≤ r.stop := by
            by_cases hke : k = s.size
            · rw [(hr1 hke).1]; exact Nat.le_refl _
            · exact Nat.le_of_lt (hr2 (by omega))
          have hto' := Lib.hid hto
          have Hr1 := Lib.hid hr1
          have Hr2 := Lib.hid hr2
          clear hto hr1 hr2 hgt htok htk htk5 hc2own hbx5 HW5 hf5 hc5 hblt
          have q0 : w'.cell? ⟨b, 0, none⟩ = some (.string r.kind) := ht2.cell0
          have q1 : w'.cell? ⟨b, 1, none⟩ = some (.string (s.extract fr k)) := ht2.cell1
          have q2 : w'.cell? ⟨b, 2, none⟩ = some (.string ⟨#[]⟩) := ht2.cell2
          have q3 : w'.cell? ⟨b, 3, none⟩ = some (.string (r.text.getD ⟨#[]⟩)) := ht2.cell3
          have q4 : w'.cell? ⟨b, 4, none⟩ = some (.int .i64 (r.base.getD 0)) := ht2.cell4
          have q5 : w'.cell? ⟨b, 5, none⟩ = some (.int .i64 k) := ht2.cell5
          have q6 : w'.cell? ⟨b, 6, none⟩ = some (.int .i64 0) := ht2.cell6
          have q7 : w'.cell? ⟨b, 7, none⟩ = some (.slice A3 cs.length c3) := ht2.cell7
          have z2 := ht2.free 2
          have z6 := ht2.free 6
          have hblt := ht2.lt
          have ht3 := (ht2.setRaw (s.extract k r.stop)).setStop (r.stop : Int)
          have ho3 : Only b w' ((w'.setCell ⟨b, 2, none⟩ (.string (s.extract k r.stop))).setCell ⟨b, 6, none⟩ (.int .i64 (r.stop : Int))) := ((Only.refl b w').setCell 2 _).setCell 6 _
          have hcr3 := hcr2.only ht2 ho3
          have hb3 := hb2.trans (ho3.below (Nat.le_refl _) (by omega))
          have hrow3 := hrowH.out.below (by rw [Hb.out]; exact hb3)
          rw [Hn.out] at hrow3
          have hrown := hrow3.1
          rw [Hn.out] at hrown
          obtain ⟨tx, htx⟩ : ∃ tx, r.text.getD ⟨#[]⟩ = tx := ⟨_, rfl⟩
          obtain ⟨bs, hbs⟩ : ∃ bs, r.base.getD 0 = bs := ⟨_, rfl⟩
          rw [htx] at q3
          rw [hbs] at q4
          have Htx := Lib.hid htx
          have Hbs := Lib.hid hbs
          clear htx hbs hcr2 hb2 hw2
          have hsz3 : ((w'.setCell ⟨b, 2, none⟩ (.string (s.extract k r.stop))).setCell ⟨b, 6, none⟩ (.int .i64 (r.stop : Int))).heap.size = w'.heap.size := by simp [World.setCell]
          go_wp2_with (at_builtin; refine wpList_append_lies _ rfl (.tmp 99) (.tmp 101) 25 rfl w.heap.size 30 it (.agg #[.string ⟨#[]⟩, .string ⟨#[]⟩, .string ⟨#[]⟩, .string ⟨#[]⟩, .int .i64 0, .int .i64 0, .int .i64 0, .slice none 0 0]) 8 112 Tryd.underlying25 hit htz0 htz1 htz2 rfl (by decide) (.slice A n c) n (ts.flatMap tokCells) rfl (hrown.alloc _) ⟨w'.heap.size, 0, none⟩ 1 1 [.string r.kind, .string (s.extract fr k), .string (s.extract k r.stop), .string tx, .int .i64 bs, .int .i64 k, .int .i64 r.stop, .slice A3 cs.length c3] rfl rfl (by intro q u h; have h9 := cells_new ((w'.setCell ⟨b, 2, none⟩ (.string (s.extract k r.stop))).setCell ⟨b, 6, none⟩ (.int .i64 (r.stop : Int))) #[.string r.kind, .string (s.extract fr k), .string (s.extract k r.stop), .string tx, .int .i64 bs, .int .i64 k, .int .i64 r.stop, .slice A3 cs.length c3] 30 q u h; rw [hsz3] at h9; exact h9) (by intro u hu; simp at hu; rcases hu with rfl | rfl | rfl | rfl | rfl | rfl | rfl | rfl <;> rfl) (by omega) (by unfold maxLen; omega) (by omega) (by simp [World.setCell]; omega) _ rfl ?_; intro g cap w1 hown hgrow hat hlt; have ht4 := grown_tok2 ht3 hgrow (fun h => by have := hgrow1.out b h; omega); have p0 : w1.cell? ⟨b, 0, none⟩ = some (.string r.kind) := ht4.cell0)
          all_goals
            have hrow4 := tok_push (t := mkTok s (cs, fr, k) r) (hrow3.below ((Below.refl _ _).alloc (Nat.le_refl _) _)) (hcr3.below ((Below.refl _ _).alloc (Nat.le_refl _) _)) (by rw [Hn.out]) (by rw [← Htx.out, ← Hbs.out]; rfl) hown hgrow
            have hb4 : Below w.heap.size w w1 := ((hbw.trans (hb3.mono hwb)).alloc (by rw [hsz3]; omega) _).grown hgrow (by simp [World.setCell]; omega) (fun k2 hk2 => (hrown.lt k2 hk2).1)
            clear ht2 ht3 ho3 hcr3 hb3 hrow3 hrown hown hgrow hat hlt ht4 hrowH q0 q1 q2 q3 q4 q5 q6 q7 z2 z6 hgrow1 hblt hbw
          · rename_i heb
            have he : eofB r.kind = true := heb
            have hok : Hid (specLex s = some (ts.map Prod.fst ++ [mkTok s (cs, fr, k) r])) := by show _ = _; rw [← hr.out]; exact lexFrom_eof hg.out (by rw [hpth'.out, hafter.out]; exact hto'.out) he
            clear he
            go_ret3
            exact lexPost_good hok.out hb4 (by rw [List.length_append, Hn.out]; rfl) hrow4 (by rw [List.map_append]; rfl)
          · rename_i heb
            have he : eofB r.kind = false := heb
            have hgo := Lib.hid (lexFrom_go (f := f) hg.out (by rw [hpth'.out, hafter.out]; exact hto'.out) he)
            have hir : i + 1 ≤ r.stop := by
              by_cases hke : k = s.size
              · have := (Hr1.out hke).2; rw [he] at this; cases this
              · have := Hr2.out (by omega); omega
            clear he
            go_roundg f
            case measure => omega
            case rel =>
              refine ⟨r.stop, ts ++ [(mkTok s (cs, fr, k) r, .slice A3 cs.length c3)], some ⟨g, 0, none⟩, cap, ?_, rfl, hr3, ?_, by omega, hrow4, hb4, ?_⟩
              · rw [List.length_append, Hn.out]; rfl
              · rw [List.length_append, Hn.out]; simp; omega
              · show _ = _; rw [← hr.out, hgo.out, List.map_append]; rfl
end Go.Proofs.YtkhjenlclpcehaaDoor
