/- The parser's next token is the reference's. Condition: the text is as TextOk says; the table of powers holds what it was laid with. · The parser's NextToken: a fault that was thrown is handed back as an error. Condition: the text is as TextOk says; the table of powers holds what it was laid with. · errors.As at the parser's error: found at once. Condition: the package's own variable holds what it was laid with. · Where a fault lies, as the doors hand it on. Condition: the package's own variable holds what it was laid with. · The reference's tokens of a text are the plain ones. Condition: the text is at most 2^38 bytes long. · The parser's tokens as the doors hand them on. Condition: at most 4096 comments. · What the parser's loop over tokens rests on. No condition. · The parser's tokens of a text are the reference's. Condition: the text is as TextOk says; the tables hold what they were laid with. · Two like tokens are the same to the law. Condition: at most 2^38 comments. -/
import Derived.Test.YtmkkeacbabmaeaaGreatDoorM11
import Derived.StillTailTactics
import Derived.Deep.RegionHeldLaw
import Derived.Defers
import Derived.Recover
import Derived.Stop.Asserts
import Derived.Test.YtmkkeacbabmaeaaGreatDoorProg
import Derived.WalkKit
import Derived.LaidEql
import Derived.RowKitTokens
import Derived.Test.YtmkkeacbabmaeaaGreatDoorM05
import Derived.Deep.RegionLaw
import Derived.BigQuiet
namespace Go.Proofs.YtmkkeacbabmaeaaGreatDoor
open Go.RowKit Go.PlainAid

set_option maxHeartbeats 12000000 in
set_option maxRecDepth 100000 in
theorem nextToken_c (s : ByteArray) (b f i B : Nat) (x : LxS) (w : World) (hT : TextOk s) (hE : Env s b f B w) (hx : LxAt w b f x) (hp : x.pos = i) (hi : i ≤ s.size) :
    Calls Tryz.prog 22 #[.pointer (some ⟨b, 0, none⟩), .bool false] w (NextPost s b f B i x w) := by
  obtain ⟨ic, hic, hcz0, hcz1, hcz2⟩ := info_parts info_tc
  have hs := hT.small
  have HT := Lib.hid hT
  have HE := Lib.hid hE
  have hbl := hx.lt
  have hz2 := bare_at hx hp
  have hOz := (((((((((Only.refl b w).setCell 10 (.string x.kind)).setCell 1 (.string ⟨#[]⟩)).setCell 2 (.slice none 0 0)).setCell 3 (.string ⟨#[]⟩)).setCell 4 (.string ⟨#[]⟩)).setCell 5 (.string ⟨#[]⟩)).setCell 6 (.int .i64 0)).setCell 7 (.int .i64 0)).setCell 8 (.int .i64 0)
  obtain ⟨W0, hW0⟩ : ∃ W0, (((((((((w.setCell ⟨b, 10, none⟩ (.string x.kind)).setCell ⟨b, 1, none⟩ (.string ⟨#[]⟩)).setCell ⟨b, 2, none⟩ (.slice none 0 0)).setCell ⟨b, 3, none⟩ (.string ⟨#[]⟩)).setCell ⟨b, 4, none⟩ (.string ⟨#[]⟩)).setCell ⟨b, 5, none⟩ (.string ⟨#[]⟩)).setCell ⟨b, 6, none⟩ (.int .i64 0)).setCell ⟨b, 7, none⟩ (.int .i64 0)).setCell ⟨b, 8, none⟩ (.int .i64 0)) = W0 := ⟨_, rfl⟩
  rw [hW0] at hz2 hOz
  have Hz := Lib.hid hz2
  have HOz := Lib.hid hOz
  have c1 := hx.cell1
  have c2 := hx.cell2
  have c3 := hx.cell3
  have c4 := hx.cell4
  have c5 := hx.cell5
  have c6 := hx.cell6
  have c7 := hx.cell7
  have c8 := hx.cell8
  have c10 := hx.cell10
  have f1 := hx.free 1
  have f2 := hx.free 2
  have f3 := hx.free 3
  have f4 := hx.free 4
  have f5 := hx.free 5
  have f6 := hx.free 6
  have f7 := hx.free 7
  have f8 := hx.free 8
  have f10 := hx.free 10
  have HW0 := Lib.hid hW0
  have Hx := Lib.hid hx
  clear hz2 hOz hW0 hx hE hT hp
  go_enter Tryz.func22, Tryz.ntmps22
  go_upto_region 2 with fail
  rw [HW0.out]
  clear c1 c2 c3 c4 c5 c6 c7 c8 c10 f1 f2 f3 f4 f5 f6 f7 f8 f10 HW0
  go_wp2_with fail
  go_loopw [] (fun wr => ∃ (kq j : Nat) (cs : List CmtD) (cv : Value), i ≤ j ∧ j ≤ s.size ∧ cs.length ≤ j ∧ s.size + 1 ≤ j + kq ∧ LxAt wr b f (bare x j cv) ∧ MRow wr w.heap.size cv cs ∧ Only b w wr ∧ Hid (gapFrom s kq j cs = gapFrom s (s.size + 1) i [])) (fun wr => match wr.cell? ⟨b, 9, none⟩ with | some (.int .i64 p) => s.size - p.toNat | _ => 0)
  case atStart => exact ⟨s.size + 1, i, [], .slice none 0 0, Nat.le_refl _, hi, by simp, by omega, Hz.out, MRow.nil _ _, HOz.out, rfl⟩
  case round =>
    obtain ⟨kq, j, cs, cv, hij, hj, hcl, hfu, hlx, hrow, hO, hr⟩ := hrel
    obtain ⟨f2, rfl⟩ : ∃ g, kq = g + 1 := ⟨kq - 1, by omega⟩
    have hne := HE.out.ne
    have hEr := HE.out.only hO
    have hk1 := blanksEnd_ge s j
    have hk2 := blanksEnd_le s j hj
    have g1 := fun h => gapFrom_none (s := s) (f := f2) (i := j) (cs := cs) h
    have g2 := fun h => gapFrom_done (s := s) (f := f2) (i := j) (cs := cs) h
    have g3 := fun e h hne => gapFrom_go (s := s) (f := f2) (i := j) (cs := cs) (e := e) h hne
    have hsp := skipSpaces_c s b f j (bare x j cv) wr hs hj HT.out.ok hlx rfl hEr.file
    have hbb := Lib.hid (blanks_here s j)
    obtain ⟨k, hk⟩ : ∃ k, blanksEnd s j = k := ⟨_, rfl⟩
    rw [hk] at hk1 hk2 hsp
    simp only [hk] at g1 g2 g3
    have Hbb : Hid (k < s.size → blankB (bt s k) = false) := by show _ → _; rw [← hk]; exact hbb.out
    clear hk hbb
    have G1 := Lib.hid g1
    have G2 := Lib.hid g2
    have G3 := Lib.hid g3
    have Hsp := Lib.hid hsp
    have Hrow := Lib.hid hrow
    have HO := Lib.hid hO
    have Hlx := Lib.hid hlx
    have c9 : wr.cell? ⟨b, 9, none⟩ = some (.int .i64 j) := hlx.cell9
    clear g1 g2 g3 hsp hrow hO hEr hlx
    go_wp2_with fail
    refine Hsp.out.mono ?_
    rintro e w1 ⟨rfl, hlx1, hO1⟩
    have hO1' := HO.out.trans hO1
    have hE1 := HE.out.only hO1'
    have Hrow1 := Lib.hid (Hrow.out.only Hlx.out hO1)
    have C9 := Lib.hid c9
    clear c9 Hsp
    have c0 := hlx1.cell0
    have c9 : w1.cell? ⟨b, 9, none⟩ = some (.int .i64 k) := hlx1.cell9
    have c1f := hE1.file.cell1
    have hjI : (0 : Int) ≤ (j : Int) := by omega
    have hjk : (j : Int) ≤ (k : Int) := by omega
    have hks : (k : Int) ≤ (s.size : Int) := by omega
    have hkI : (0 : Int) ≤ (k : Int) := by omega
    have Hlx1 := Lib.hid hlx1
    have HO1 := Lib.hid hO1'
    have HE1 := Lib.hid hE1
    clear hlx1 hO1' hE1 hO1
    go_wp2_with fail
    go_quiet (fail)
    have hlx2 : LxAt (w1.drewN nq) b f (bare x k cv) := Hlx1.out
    have hO2 : Only b w (w1.drewN nq) := HO1.out.dn nq
    have hE2 := HE.out.only hO2
    have hrow2 : MRow (w1.drewN nq) w.heap.size cv cs := Hrow1.out.below (below_dn _ _ _)
    obtain ⟨W1, hW1⟩ : ∃ W1, w1.drewN nq = W1 := ⟨_, rfl⟩
    rw [hW1] at hlx2 hO2 hE2 hrow2 ⊢
    clear hW1 c0 c9 c1f hjI hjk hks hkI
    have hcm := skipComment_c s b f k B (bare x k cv) W1 hk2 HT.out.ok HT.out.nost hlx2 rfl hE2
    have Hcm := Lib.hid hcm
    have c9 : W1.cell? ⟨b, 9, none⟩ = some (.int .i64 k) := hlx2.cell9
    have Hlx2 := Lib.hid hlx2
    have HO2 := Lib.hid hO2
    have Hrow2 := Lib.hid hrow2
    clear hcm hlx2 hO2 hE2 hrow2 Hrow1 Hlx1 HO1 HE1
    go_wp2_with fail
    refine Hcm.out.mono ?_
    rintro e w3 kk
    cases hce : commentEnd s k with
    | none =>
      rw [hce] at kk
      have k2 := Thrown.from HO2.out Hx.out HE.out.bb HE.out.bw (show Thrown B W1 e w3 from kk)
      obtain ⟨v, p, rfl, herr, hlow⟩ := k2
      exact ⟨rfl, NextPost.gap (by rw [← hr.out]; exact G1.out hce) ⟨v, p, rfl, herr, hlow⟩⟩
    | some e2 =>
      rw [hce] at kk
      obtain ⟨rfl, hlx3, hO3⟩ := (show e = .returned (.bool false) ∧ LxAt w3 b f { bare x k cv with pos := (e2 : Int) } ∧ Only b W1 w3 from kk)
      obtain ⟨he1, he2⟩ := commentEnd_le hk2 hce
      have hrow3 := Hrow2.out.only Hlx2.out hO3
      have hO3' := HO2.out.trans hO3
      have hlx4 : LxAt w3 b f (bare x e2 cv) := hlx3
      clear kk Hcm c9 hlx3
      have c9 : w3.cell? ⟨b, 9, none⟩ = some (.int .i64 e2) := hlx4.cell9
      by_cases hek : e2 = k
      · subst hek
        have Hg := Lib.hid (hr.out.symm.trans (G2.out hce))
        have Hhere := Lib.hid hce
        have c3 := hlx4.cell3
        have f3 := hlx4.free 3
        have c7 := hlx4.cell7
        have f7 := hlx4.free 7
        have hlx5 : LxAt ((w3.setCell ⟨b, 3, none⟩ (.string (s.extract j e2))).setCell ⟨b, 7, none⟩ (.int .i64 (e2 : Int))) b f ⟨⟨#[]⟩, cv, s.extract j e2, ⟨#[]⟩, ⟨#[]⟩, 0, (e2 : Nat), 0, (e2 : Nat), x.kind, x.dot⟩ := (hlx4.setSpace _).setTpos _
        have hO5 := (hO3'.setCell 3 (.string (s.extract j e2))).setCell 7 (.int .i64 (e2 : Int))
        have hrow5 := hrow3.only hlx4 (((Only.refl b w3).setCell 3 (.string (s.extract j e2))).setCell 7 (.int .i64 (e2 : Int)))
        obtain ⟨xd, hxd⟩ : ∃ xd, x.dot = xd := ⟨_, rfl⟩
        have c11 : w3.cell? ⟨b, 11, none⟩ = some (.bool xd) := by rw [← hxd]; exact hlx4.cell11
        rw [hxd] at hlx5
        have HX5 := Lib.hid hlx5
        have HO5 := Lib.hid hO5
        have Hrow5 := Lib.hid hrow5
        have Hxd := Lib.hid hxd
        clear hlx5 hO5 hrow5 hxd hce G1 G2 G3 hlx4 hO3' hO3 hrow3
        cases xd with
        | true =>
          have Hct := Lib.hid (consumeField_c s b f e2 B ⟨⟨#[]⟩, cv, s.extract j e2, ⟨#[]⟩, ⟨#[]⟩, 0, (e2 : Nat), 0, (e2 : Nat), x.kind, true⟩ _ ⟨HE.out.only HO5.out, HX5.out, rfl, hk2, HT.out.ok, HT.out.esc⟩ rfl (HT.out.sign e2) (fun h => ⟨Hbb.out h, cmt_here h Hhere.out⟩))
          go_wp2_with fail
          refine Hct.out.mono ?_
          rintro e w6 kk
          have kk2 : Step b f _ B (tokStep _ (dottedB x.kind) (tokOf s e2 true (dottedB x.kind))) _ e w6 := kk
          clear kk Hct
          cases hto : tokOf s e2 true (dottedB x.kind) with
          | none =>
            rw [hto] at kk2
            have k2 := Thrown.from HO5.out Hx.out HE.out.bb HE.out.bw (show Thrown B _ e w6 from kk2)
            obtain ⟨v, p, rfl, herr, hlow⟩ := k2
            exact ⟨rfl, NextPost.tok Hg.out (by rw [Hxd.out]; exact hto) ⟨v, p, rfl, herr, hlow⟩⟩
          | some r =>
            rw [hto] at kk2
            obtain ⟨rfl, hlx6, hO6⟩ := (show e = .returned (.tuple #[]) ∧ LxAt w6 b f (tokNext ⟨⟨#[]⟩, cv, s.extract j e2, ⟨#[]⟩, ⟨#[]⟩, 0, (e2 : Nat), 0, (e2 : Nat), x.kind, true⟩ (dottedB x.kind) r) ∧ Only b _ w6 from kk2)
            have hgt := tokOf_gt hk2 hto
            have hto : Hid (tokOf s e2 x.dot (dottedB x.kind) = some r) := by show _ = _; rw [Hxd.out]; exact hto
            obtain ⟨p, hp⟩ : ∃ p, r.stop = p := ⟨_, rfl⟩
            rw [hp] at hgt
            have hb1 : e2 ≤ p := by omega
            have hb2 : p ≤ s.size := by omega
            have hO7 := HO5.out.trans hO6
            have hrow7 := Hrow5.out.only HX5.out hO6
            have hlx7 : LxAt (w6.setCell ⟨b, 11, none⟩ (.bool false)) b f ⟨r.kind, cv, s.extract j e2, ⟨#[]⟩, r.text.getD ⟨#[]⟩, r.base.getD 0, (e2 : Nat), 0, (p : Nat), x.kind, false⟩ := by
              rw [← hp]
              exact hlx6.setDot false
            have hO8 := hO7.setCell 11 (.bool false)
            have hrow8 := hrow7.only hlx6 ((Only.refl b w6).setCell 11 (.bool false))
            have c11 := hlx6.cell11
            have f11 := hlx6.free 11
            obtain ⟨W7, hW7⟩ : ∃ W7, w6.setCell ⟨b, 11, none⟩ (.bool false) = W7 := ⟨_, rfl⟩
            rw [hW7] at hlx7 hO8 hrow8
            have HX7 := Lib.hid hlx7
            have HO7 := Lib.hid hO8
            have HR7 := Lib.hid hrow8
            have Hfin : Hid (∀ V : World, LxAt V b f ⟨r.kind, cv, s.extract j e2, ⟨#[]⟩, r.text.getD ⟨#[]⟩, r.base.getD 0, (e2 : Nat), 0, (p : Nat), x.kind, false⟩ → LxAt ((V.setCell ⟨b, 4, none⟩ (.string (s.extract e2 p))).setCell ⟨b, 8, none⟩ (.int .i64 p)) b f (nextLx s x (cs, j, e2) r cv)) := by
              intro V hv
              unfold nextLx
              rw [Hxd.out, hp]
              exact (hv.setRaw (s.extract e2 p)).setTend (p : Int)
            clear hlx6 hO6 hlx7 hO8 hrow7 hrow8 hO7 hgt hp
            go_upto_region 21 with fail
            try rw [hW7]
            clear hW7
            clear c11 f11
            refine wp_region_still_tail 17 (by kernel_rfl) (by kernel_rfl) ?_
            simp only [List.take_succ_cons, List.take_zero, List.drop_succ_cons, List.drop_zero]
            have hV := drew_below W7.heap.size W7
            generalize ({ heap := W7.heap, tape := W7.tape, drawn := W7.drawn + 1, os := W7.os, output := W7.output } : World) = V at hV ⊢
            have hxV := HX7.out.below hV
            have hOV := HO7.out.trans (Only.of_below (b := b) hV)
            have hrowV := HR7.out.below hV
            have hfV := (HE.out.only hOV).file
            have c0 := hxV.cell0
            have c9 : V.cell? ⟨b, 9, none⟩ = some (.int .i64 p) := hxV.cell9
            have c1f := hfV.cell1
            have c4 := hxV.cell4
            have f4 := hxV.free 4
            have c8 := hxV.cell8
            have f8 := hxV.free 8
            have hb3 : (0 : Int) ≤ (e2 : Int) := by omega
            have hb4 : (0 : Int) ≤ (p : Int) := by omega
            have HXV := Lib.hid hxV
            have HOV := Lib.hid hOV
            have HRV := Lib.hid hrowV
            clear hxV hOV hrowV hfV
            repeat still_step
            refine wpStill_nil ?_
            clear c0 c1f
            go_wp2_with fail
            go_end0
            exact NextPost.good Hg.out hto.out ((HOV.out.setCell 4 _).setCell 8 _) (Hfin.out V HXV.out) (HRV.out.only HXV.out (((Only.refl b V).setCell 4 _).setCell 8 _))
        | false =>
          have Hct := Lib.hid (consumeToken_c s b f e2 B ⟨⟨#[]⟩, cv, s.extract j e2, ⟨#[]⟩, ⟨#[]⟩, 0, (e2 : Nat), 0, (e2 : Nat), x.kind, false⟩ _ ⟨HE.out.only HO5.out, HX5.out, rfl, hk2, HT.out.ok, HT.out.esc⟩ rfl (HT.out.sign e2) (fun h => ⟨Hbb.out h, cmt_here h Hhere.out⟩))
          go_wp2_with fail
          refine Hct.out.mono ?_
          rintro e w6 kk
          have kk2 : Step b f _ B (tokStep _ (dottedB x.kind) (tokOf s e2 false (dottedB x.kind))) _ e w6 := kk
          clear kk Hct
          cases hto : tokOf s e2 false (dottedB x.kind) with
          | none =>
            rw [hto] at kk2
            have k2 := Thrown.from HO5.out Hx.out HE.out.bb HE.out.bw (show Thrown B _ e w6 from kk2)
            obtain ⟨v, p, rfl, herr, hlow⟩ := k2
            exact ⟨rfl, NextPost.tok Hg.out (by rw [Hxd.out]; exact hto) ⟨v, p, rfl, herr, hlow⟩⟩
          | some r =>
            rw [hto] at kk2
            obtain ⟨rfl, hlx6, hO6⟩ := (show e = .returned (.tuple #[]) ∧ LxAt w6 b f (tokNext ⟨⟨#[]⟩, cv, s.extract j e2, ⟨#[]⟩, ⟨#[]⟩, 0, (e2 : Nat), 0, (e2 : Nat), x.kind, false⟩ (dottedB x.kind) r) ∧ Only b _ w6 from kk2)
            have hgt := tokOf_gt hk2 hto
            have hto : Hid (tokOf s e2 x.dot (dottedB x.kind) = some r) := by show _ = _; rw [Hxd.out]; exact hto
            obtain ⟨p, hp⟩ : ∃ p, r.stop = p := ⟨_, rfl⟩
            rw [hp] at hgt
            have hb1 : e2 ≤ p := by omega
            have hb2 : p ≤ s.size := by omega
            have hO7 := HO5.out.trans hO6
            have hrow7 := Hrow5.out.only HX5.out hO6
            obtain ⟨D, hD⟩ : ∃ D, (if isDot r.kind = true then dottedB x.kind else false) = D := ⟨_, rfl⟩
            have hlx7 : LxAt w6 b f ⟨r.kind, cv, s.extract j e2, ⟨#[]⟩, r.text.getD ⟨#[]⟩, r.base.getD 0, (e2 : Nat), 0, (p : Nat), x.kind, D⟩ := by
              rw [← hp, ← hD]
              exact hlx6
            have HX7 := Lib.hid hlx7
            have HO7 := Lib.hid hO7
            have HR7 := Lib.hid hrow7
            have Hfin : Hid (∀ V : World, LxAt V b f ⟨r.kind, cv, s.extract j e2, ⟨#[]⟩, r.text.getD ⟨#[]⟩, r.base.getD 0, (e2 : Nat), 0, (p : Nat), x.kind, D⟩ → LxAt ((V.setCell ⟨b, 4, none⟩ (.string (s.extract e2 p))).setCell ⟨b, 8, none⟩ (.int .i64 p)) b f (nextLx s x (cs, j, e2) r cv)) := by
              intro V hv
              unfold nextLx
              have hD2 : (!x.dot && isDot r.kind && dottedB x.kind) = D := by
                rw [Hxd.out, ← hD]
                cases isDot r.kind <;> rfl
              rw [hD2, hp]
              exact (hv.setRaw (s.extract e2 p)).setTend (p : Int)
            clear hlx6 hO6 hlx7 hrow7 hO7 hgt hp hD
            obtain ⟨W7, hW7⟩ : ∃ W7, w6 = W7 := ⟨_, rfl⟩
            rw [hW7] at HX7 HO7 HR7 ⊢
            clear hW7
            go_upto_region 21 with fail
            refine wp_region_still_tail 17 (by kernel_rfl) (by kernel_rfl) ?_
            simp only [List.take_succ_cons, List.take_zero, List.drop_succ_cons, List.drop_zero]
            have hV := drew_below W7.heap.size W7
            generalize ({ heap := W7.heap, tape := W7.tape, drawn := W7.drawn + 1, os := W7.os, output := W7.output } : World) = V at hV ⊢
            have hxV := HX7.out.below hV
            have hOV := HO7.out.trans (Only.of_below (b := b) hV)
            have hrowV := HR7.out.below hV
            have hfV := (HE.out.only hOV).file
            have c0 := hxV.cell0
            have c9 : V.cell? ⟨b, 9, none⟩ = some (.int .i64 p) := hxV.cell9
            have c1f := hfV.cell1
            have c4 := hxV.cell4
            have f4 := hxV.free 4
            have c8 := hxV.cell8
            have f8 := hxV.free 8
            have hb3 : (0 : Int) ≤ (e2 : Int) := by omega
            have hb4 : (0 : Int) ≤ (p : Int) := by omega
            have HXV := Lib.hid hxV
            have HOV := Lib.hid hOV
            have HRV := Lib.hid hrowV
            clear hxV hOV hrowV hfV
            repeat still_step
            refine wpStill_nil ?_
            clear c0 c1f
            go_wp2_with fail
            go_end0
            exact NextPost.good Hg.out hto.out ((HOV.out.setCell 4 _).setCell 8 _) (Hfin.out V HXV.out) (HRV.out.only HXV.out (((Only.refl b V).setCell 4 _).setCell 8 _))
      · have Hg := Lib.hid (G3.out e2 hce hek)
        have hne2 : ((e2 : Int) == (k : Int)) = false := by simp; omega
        obtain ⟨hcrow, A2, ca, rfl⟩ := hrow3
        clear hce G1 G2 G3
        go_wp2_with fail
        have hc2 : w3.cell? ⟨b, 2, none⟩ = some (.slice A2 cs.length ca) := hlx4.cell2
        have hf2 := hlx4.free 2
        have hc0 := hlx4.cell0
        have hfile3 := (HE.out.only hO3').file
        have hc1f := hfile3.cell1
        have htlt := hlx4.lt
        have hjI : (0 : Int) ≤ (k : Int) := by omega
        have hke : (k : Int) ≤ (e2 : Int) := by omega
        have hes : (e2 : Int) ≤ (s.size : Int) := by omega
        have hsz := hO3'.size
        refine wp_region_held_drew (S := fun w' : World => w'.cell? ⟨b, 0, none⟩ = some (.pointer (some ⟨f, 0, none⟩)) ∧ w'.cell? ⟨f, 1, none⟩ = some (.string s) ∧ w'.cell? ⟨b, 9, none⟩ = some (.int .i64 (e2 : Int))) (by kernel_rfl) ⟨hc0, hc1f, c9⟩ (fun hHeld => ?_)
        refine wpAnyH_take (i := 0) (v := ?v1) rfl (by kernel_rfl) (by kernel_rfl) (by kernel_rfl) (fun _ _ _ h => h) (Or.inl ⟨by rfl, ?y1⟩) (by assumption) ?r1
        case y1 => (intro w hSw; (try dsimp only at hSw); go_simp; try with_reducible rfl)
        try simp only [Act.put, List.setIfInBounds_toArray]
        refine wpAnyH_take (i := 1) (v := ?v2) rfl (by kernel_rfl) (by kernel_rfl) (by kernel_rfl) (fun _ _ _ h => h) (Or.inl ⟨by rfl, ?y2⟩) (by assumption) ?r2
        case y2 => (intro w hSw; (try dsimp only at hSw); go_simp; try with_reducible rfl)
        try simp only [Act.put]
        refine wpAnyH_take (i := 2) (v := ?v3) rfl (by kernel_rfl) (by kernel_rfl) (by kernel_rfl) (fun _ _ _ h => h) (Or.inl ⟨by rfl, ?y3⟩) (by assumption) ?r3
        case y3 => (intro w hSw; (try dsimp only at hSw); go_simp; try with_reducible rfl)
        try simp only [Act.put]
        refine wpAnyH_take (i := 3) (v := ?v4) rfl (by kernel_rfl) (by kernel_rfl) (by kernel_rfl) (fun _ _ _ h => h) (Or.inl ⟨by rfl, ?y4⟩) (by assumption) ?r4
        case y4 => (intro w hSw; (try dsimp only at hSw); go_simp; try with_reducible rfl)
        try simp only [Act.put]
        refine wpAnyH_take (i := 4) (v := ?v5) rfl (by kernel_rfl) (by kernel_rfl) (by kernel_rfl) (fun _ _ _ h => h) (Or.inl ⟨by rfl, ?y5⟩) (by assumption) ?r5
        case y5 => (intro w hSw; (try dsimp only at hSw); go_simp; try with_reducible rfl)
        try simp only [Act.put]
        refine wpAnyH_take (i := 6) (v := ?v6) rfl (by kernel_rfl) (by kernel_rfl) (by kernel_rfl) (fun _ _ _ h => h) (Or.inl ⟨by rfl, ?y6⟩) (by assumption) ?r6
        case y6 => (intro w hSw; (try dsimp only at hSw); go_simp; try with_reducible rfl)
        try simp only [Act.put]
        refine wpAnyH_take (i := 7) (v := ?v7) rfl (by kernel_rfl) (by kernel_rfl) (by kernel_rfl) (fun _ _ _ h => h) (Or.inl ⟨by rfl, ?y7⟩) (by assumption) ?r7
        case y7 => (intro w hSw; (try dsimp only at hSw); go_simp; try with_reducible rfl)
        try simp only [Act.put]
        refine wpAnyH_take (i := 8) (v := ?v8) rfl (by kernel_rfl) (by kernel_rfl) (by kernel_rfl) (fun _ _ _ h => h) (Or.inl ⟨by rfl, ?y8⟩) (by assumption) ?r8
        case y8 => (intro w hSw; (try dsimp only at hSw); go_simp; try with_reducible rfl)
        try simp only [Act.put]
        refine wpAnyH_take (i := 9) (v := ?v9) rfl (by kernel_rfl) (by kernel_rfl) (by kernel_rfl) (fun _ _ _ h => h) (Or.inl ⟨by rfl, ?y9⟩) (by assumption) ?r9
        case y9 => (intro w hSw; (try dsimp only at hSw); go_simp; try with_reducible rfl)
        try simp only [Act.put]
        refine wpAnyH_take (i := 10) (v := ?v10) rfl (by kernel_rfl) (by kernel_rfl) (by kernel_rfl) (fun _ _ _ h => h) (Or.inl ⟨by rfl, ?y10⟩) (by assumption) ?r10
        case y10 => (intro w hSw; (try dsimp only at hSw); go_simp; try with_reducible rfl)
        try simp only [Act.put]
        refine wpAnyH_take (i := 11) (v := ?v11) rfl (by kernel_rfl) (by kernel_rfl) (by kernel_rfl) (fun _ _ _ h => h) (Or.inl ⟨by rfl, ?y11⟩) (by assumption) ?r11
        case y11 => (intro w hSw; (try dsimp only at hSw); go_simp; try with_reducible rfl)
        try simp only [Act.put]
        refine wpAnyH_take (i := 12) (v := ?v12) rfl (by kernel_rfl) (by kernel_rfl) (by kernel_rfl) (fun _ _ _ h => h) (Or.inl ⟨by rfl, ?y12⟩) (by assumption) ?r12
        case y12 => (intro w hSw; (try dsimp only at hSw); go_simp; try with_reducible rfl)
        try simp only [Act.put]
        refine wpAnyH_take (i := 13) (v := ?v13) rfl (by kernel_rfl) (by kernel_rfl) (by kernel_rfl) (fun _ _ _ h => h) (Or.inl ⟨by rfl, ?y13⟩) (by assumption) ?r13
        case y13 => (intro w hSw; (try dsimp only at hSw); go_simp; try with_reducible rfl)
        try simp only [Act.put]
        refine wpAnyH_take (i := 14) (v := ?v14) rfl (by kernel_rfl) (by kernel_rfl) (by kernel_rfl) (fun _ _ _ h => h) (Or.inl ⟨by rfl, ?y14⟩) (by assumption) ?r14
        case y14 => (intro w hSw; (try dsimp only at hSw); go_simp; try with_reducible rfl)
        try simp only [Act.put]
        refine wpAnyH_take (i := 15) (v := ?v15) rfl (by kernel_rfl) (by kernel_rfl) (by kernel_rfl) (fun _ _ _ h => h) (Or.inl ⟨by rfl, ?y15⟩) (by assumption) ?r15
        case y15 => (intro w hSw; (try dsimp only at hSw); go_simp; try with_reducible rfl)
        try simp only [Act.put]
        refine wpAnyH_take (i := 16) (v := ?v16) rfl (by kernel_rfl) (by kernel_rfl) (by kernel_rfl) (fun _ _ _ h => h) (Or.inl ⟨by rfl, ?y16⟩) (by assumption) ?r16
        case y16 => (intro w hSw; (try dsimp only at hSw); go_simp; try with_reducible rfl)
        try simp only [Act.put]
        refine wpAnyH_take (i := 17) (v := ?v17) rfl (by kernel_rfl) (by kernel_rfl) (by kernel_rfl) (fun _ _ _ h => h) (Or.inl ⟨by rfl, ?y17⟩) (by assumption) ?r17
        case y17 => (intro w hSw; (try dsimp only at hSw); go_simp; try with_reducible rfl)
        try simp only [Act.put]
        refine wpAnyH_take (i := 18) (v := ?v18) rfl (by kernel_rfl) (by kernel_rfl) (by kernel_rfl) (fun _ _ _ h => h) (Or.inl ⟨by rfl, ?y18⟩) (by assumption) ?r18
        case y18 => (intro w hSw; (try dsimp only at hSw); go_simp; try with_reducible rfl)
        try simp only [Act.put]
        refine wpAnyH_take (i := 19) (v := ?v19) rfl (by kernel_rfl) (by kernel_rfl) (by kernel_rfl) (fun _ _ _ h => h) (Or.inl ⟨by rfl, ?y19⟩) (by assumption) ?r19
        case y19 => (intro w hSw; (try dsimp only at hSw); go_simp; try with_reducible rfl)
        try simp only [Act.put]
        refine wpAnyH_take (i := 20) (v := ?v20) rfl (by kernel_rfl) (by kernel_rfl) (by kernel_rfl) (fun _ _ _ h => h) (Or.inl ⟨by rfl, ?y20⟩) (by assumption) ?r20
        case y20 => (intro w hSw; (try dsimp only at hSw); go_simp; try with_reducible rfl)
        try simp only [Act.put]
        refine wpAnyH_take (i := 21) (v := ?v21) rfl (by kernel_rfl) (by kernel_rfl) (by kernel_rfl) (fun _ _ _ h => h) (Or.inl ⟨by rfl, ?y21⟩) (by assumption) ?r21
        case y21 => (intro w hSw; (try dsimp only at hSw); go_simp; try with_reducible rfl)
        try simp only [Act.put]
        refine wpAnyH_take (i := 22) (v := ?v22) rfl (by kernel_rfl) (by kernel_rfl) (by kernel_rfl) (fun _ _ _ h => h) (Or.inl ⟨by rfl, ?y22⟩) (by assumption) ?r22
        case y22 => (intro w hSw; (try dsimp only at hSw); go_simp; try with_reducible rfl)
        try simp only [Act.put]
        refine wpAnyH_take (i := 23) (v := ?v23) rfl (by kernel_rfl) (by kernel_rfl) (by kernel_rfl) (fun _ _ _ h => h) (Or.inl ⟨by rfl, ?y23⟩) (by assumption) ?r23
        case y23 => (intro w hSw; (try dsimp only at hSw); go_simp; try with_reducible rfl)
        try simp only [Act.put]
        refine wpAnyH_take (i := 24) (v := ?v24) rfl (by kernel_rfl) (by kernel_rfl) (by kernel_rfl) (fun _ _ _ h => h) (Or.inl ⟨by rfl, ?y24⟩) (by assumption) ?r24
        case y24 => (intro w hSw; (try dsimp only at hSw); go_simp; try with_reducible rfl)
        try simp only [Act.put]
        refine wpAnyH_take (i := 25) (v := ?v25) rfl (by kernel_rfl) (by kernel_rfl) (by kernel_rfl) (fun _ _ _ h => h) (Or.inl ⟨by rfl, ?y25⟩) (by assumption) ?r25
        case y25 => (intro w hSw; (try dsimp only at hSw); go_simp; try with_reducible rfl)
        try simp only [Act.put]
        refine wpAnyH_ready (rs := [5, 26]) (by kernel_rfl) (by simp) ?_
        refine AllReadyH.cons rfl (fun K hK => ?_) (AllReadyH.cons rfl (fun K hK => ?_) AllReadyH.nil)
        · go_simp
          refine hK.out _ _ hHeld (fun hHeld2 => ?_)
          clear hK K
          try simp only [Act.put, List.setIfInBounds_toArray, List.set_cons_zero, List.set_cons_succ]
          refine wpAnyH_ready (rs := [26]) (by kernel_rfl) (by simp) ?_
          refine AllReadyH.cons rfl (fun K hK => ?_) AllReadyH.nil
          go_simp
          refine hK.out _ _ (by go_keep) (fun hHeld3 => ?_)
          clear hK K
          try simp only [Act.put, List.setIfInBounds_toArray, List.set_cons_zero, List.set_cons_succ]
          refine wpAnyH_ready (rs := [27]) (by kernel_rfl) (by simp) ?_
          refine AllReadyH.cons rfl (fun K hK => ?_) AllReadyH.nil
          (refine step_append_lies _ rfl (.tmp 57) (.tmp 78) 42 rfl w.heap.size 68 ic (.agg #[.string ⟨#[]⟩, .string ⟨#[]⟩, .int .i64 0, .int .i64 0]) 4 48 Tryz.underlying42 hic hcz0 hcz1 hcz2 rfl (by decide) (.slice A2 cs.length ca) cs.length (cs.flatMap cmtCells) (by simp [Act.eval]) ((hcrow.alloc _).drew) ⟨w3.heap.size, 0, none⟩ 1 1 (cmtCells ⟨s.extract j k, s.extract k e2, k, e2⟩) (by simp [Act.eval]) rfl (fun q u h => cells_new w3 #[.string (s.extract j k), .string (s.extract k e2), .int .i64 k, .int .i64 e2] 68 q u h) (by intro u hu; simp [cmtCells] at hu; rcases hu with rfl | rfl | rfl | rfl <;> rfl) (by omega) (by unfold maxLen; omega) (by omega) (by simp; omega) _ rfl ?_; intro g cap w4 hown hgrow hat hlt; have ht1 := grown_lx hlx4 hgrow (own_tag_ne hcrow hlx4 (by decide)); have q2 := ht1.cell2; have z2 := ht1.free 2; have q0 := ht1.cell0; have q9 : w4.cell? ⟨b, 9, none⟩ = some (.int .i64 (e2 : Int)) := ht1.cell9; have q1f := grown_file hfile3 hgrow (own_tag_ne hcrow hfile3 (by decide)); have q1 := q1f.cell1)
          refine hK.out _ _ ⟨q0, q1, q9⟩ (fun hHeld9 => ?_)
          clear hK K
          try simp only [Act.put, List.setIfInBounds_toArray]
          refine wpAnyH_take (i := 28) (v := ?v26) rfl (by kernel_rfl) (by kernel_rfl) (by kernel_rfl) (fun _ _ _ h => h) (Or.inl ⟨by rfl, ?y26⟩) (by assumption) ?r26
          case y26 => (intro w hSw; (try dsimp only at hSw); go_simp; try with_reducible rfl)
          try simp only [Act.put]
          refine wpAnyH_take (i := 29) (v := ?v27) rfl (by kernel_rfl) (by kernel_rfl) (by kernel_rfl) (fun _ _ _ h => h) (Or.inl ⟨by rfl, ?y27⟩) (by assumption) ?r27
          case y27 => (intro w hSw; (try dsimp only at hSw); go_simp; try with_reducible rfl)
          try simp only [Act.put]
          refine wpAnyH_take (i := 30) (v := ?v28) rfl (by kernel_rfl) (by kernel_rfl) (by kernel_rfl) (fun _ _ _ h => h) (Or.inl ⟨by rfl, ?y28⟩) (by assumption) ?r28
          case y28 => (intro w hSw; (try dsimp only at hSw); go_simp; try with_reducible rfl)
          try simp only [Act.put]
          refine wpAnyH_ready (rs := [31]) (by kernel_rfl) (by simp) ?_
          refine AllReadyH.cons rfl (fun K hK => ?_) AllReadyH.nil
          go_simp
          refine hK.out _ _ ⟨(ht1.setCm _).cell0, (q1f.only ((Only.refl b w4).setCell 2 _) hne).cell1, (ht1.setCm _).cell9⟩ (fun hHeld10 => ?_)
          clear hK K
          try simp only [Act.put, List.setIfInBounds_toArray, List.set_cons_zero, List.set_cons_succ]
          refine wpAnyH_done (by kernel_rfl) ?_ _
          have hO8 := only_grown hO3' hcrow hgrow
          have hcr1 := m_push (c := ⟨s.extract j k, s.extract k e2, k, e2⟩) rfl rfl hown
          clear hown hgrow hcrow
          go_wp2_with fail
          have hlx9 : LxAt (w4.setCell ⟨b, 2, none⟩ (.slice (some ⟨g, 0, none⟩) (cs.length + 1) cap)) b f (bare x e2 (.slice (some ⟨g, 0, none⟩) (cs.length + 1) cap)) := ht1.setCm _
          refine ⟨⟨f2, e2, cs ++ [⟨s.extract j k, s.extract k e2, k, e2⟩], .slice (some ⟨g, 0, none⟩) (cs.length + 1) cap, by omega, by omega, by simp; omega, by omega, hlx9, hcr1.only ht1 ((Only.refl b w4).setCell 2 _), hO8.setCell 2 _, by show _ = _; rw [← hr.out]; exact Hg.out.symm⟩, ?_⟩
          have m1 : World.cell? (w4.setCell ⟨b, 2, none⟩ (.slice (some ⟨g, 0, none⟩) (cs.length + 1) cap)) ⟨b, 9, none⟩ = some (.int .i64 (e2 : Int)) := hlx9.cell9
          rw [C9.out]
          simp only [m1]
          omega
        · go_simp
          refine hK.out _ _ (by go_keep) (fun hHeld2 => ?_)
          clear hK K
          try simp only [Act.put, List.setIfInBounds_toArray, List.set_cons_zero, List.set_cons_succ]
          refine wpAnyH_ready (rs := [5]) (by kernel_rfl) (by simp) ?_
          refine AllReadyH.cons rfl (fun K hK => ?_) AllReadyH.nil
          go_simp
          refine hK.out _ _ hHeld2 (fun hHeld3 => ?_)
          clear hK K
          try simp only [Act.put, List.setIfInBounds_toArray, List.set_cons_zero, List.set_cons_succ]
          refine wpAnyH_ready (rs := [27]) (by kernel_rfl) (by simp) ?_
          refine AllReadyH.cons rfl (fun K hK => ?_) AllReadyH.nil
          (refine step_append_lies _ rfl (.tmp 57) (.tmp 78) 42 rfl w.heap.size 68 ic (.agg #[.string ⟨#[]⟩, .string ⟨#[]⟩, .int .i64 0, .int .i64 0]) 4 48 Tryz.underlying42 hic hcz0 hcz1 hcz2 rfl (by decide) (.slice A2 cs.length ca) cs.length (cs.flatMap cmtCells) (by simp [Act.eval]) ((hcrow.alloc _).drew) ⟨w3.heap.size, 0, none⟩ 1 1 (cmtCells ⟨s.extract j k, s.extract k e2, k, e2⟩) (by simp [Act.eval]) rfl (fun q u h => cells_new w3 #[.string (s.extract j k), .string (s.extract k e2), .int .i64 k, .int .i64 e2] 68 q u h) (by intro u hu; simp [cmtCells] at hu; rcases hu with rfl | rfl | rfl | rfl <;> rfl) (by omega) (by unfold maxLen; omega) (by omega) (by simp; omega) _ rfl ?_; intro g cap w4 hown hgrow hat hlt; have ht1 := grown_lx hlx4 hgrow (own_tag_ne hcrow hlx4 (by decide)); have q2 := ht1.cell2; have z2 := ht1.free 2; have q0 := ht1.cell0; have q9 : w4.cell? ⟨b, 9, none⟩ = some (.int .i64 (e2 : Int)) := ht1.cell9; have q1f := grown_file hfile3 hgrow (own_tag_ne hcrow hfile3 (by decide)); have q1 := q1f.cell1)
          refine hK.out _ _ ⟨q0, q1, q9⟩ (fun hHeld9 => ?_)
          clear hK K
          try simp only [Act.put, List.setIfInBounds_toArray]
          refine wpAnyH_take (i := 28) (v := ?v29) rfl (by kernel_rfl) (by kernel_rfl) (by kernel_rfl) (fun _ _ _ h => h) (Or.inl ⟨by rfl, ?y29⟩) (by assumption) ?r29
          case y29 => (intro w hSw; (try dsimp only at hSw); go_simp; try with_reducible rfl)
          try simp only [Act.put]
          refine wpAnyH_take (i := 29) (v := ?v30) rfl (by kernel_rfl) (by kernel_rfl) (by kernel_rfl) (fun _ _ _ h => h) (Or.inl ⟨by rfl, ?y30⟩) (by assumption) ?r30
          case y30 => (intro w hSw; (try dsimp only at hSw); go_simp; try with_reducible rfl)
          try simp only [Act.put]
          refine wpAnyH_take (i := 30) (v := ?v31) rfl (by kernel_rfl) (by kernel_rfl) (by kernel_rfl) (fun _ _ _ h => h) (Or.inl ⟨by rfl, ?y31⟩) (by assumption) ?r31
          case y31 => (intro w hSw; (try dsimp only at hSw); go_simp; try with_reducible rfl)
          try simp only [Act.put]
          refine wpAnyH_ready (rs := [31]) (by kernel_rfl) (by simp) ?_
          refine AllReadyH.cons rfl (fun K hK => ?_) AllReadyH.nil
          go_simp
          refine hK.out _ _ ⟨(ht1.setCm _).cell0, (q1f.only ((Only.refl b w4).setCell 2 _) hne).cell1, (ht1.setCm _).cell9⟩ (fun hHeld10 => ?_)
          clear hK K
          try simp only [Act.put, List.setIfInBounds_toArray, List.set_cons_zero, List.set_cons_succ]
          refine wpAnyH_done (by kernel_rfl) ?_ _
          have hO8 := only_grown hO3' hcrow hgrow
          have hcr1 := m_push (c := ⟨s.extract j k, s.extract k e2, k, e2⟩) rfl rfl hown
          clear hown hgrow hcrow
          go_wp2_with fail
          have hlx9 : LxAt (w4.setCell ⟨b, 2, none⟩ (.slice (some ⟨g, 0, none⟩) (cs.length + 1) cap)) b f (bare x e2 (.slice (some ⟨g, 0, none⟩) (cs.length + 1) cap)) := ht1.setCm _
          refine ⟨⟨f2, e2, cs ++ [⟨s.extract j k, s.extract k e2, k, e2⟩], .slice (some ⟨g, 0, none⟩) (cs.length + 1) cap, by omega, by omega, by simp; omega, by omega, hlx9, hcr1.only ht1 ((Only.refl b w4).setCell 2 _), hO8.setCell 2 _, by show _ = _; rw [← hr.out]; exact Hg.out.symm⟩, ?_⟩
          have m1 : World.cell? (w4.setCell ⟨b, 2, none⟩ (.slice (some ⟨g, 0, none⟩) (cs.length + 1) cap)) ⟨b, 9, none⟩ = some (.int .i64 (e2 : Int)) := hlx9.cell9
          rw [C9.out]
          simp only [m1]
          omega
end Go.Proofs.YtmkkeacbabmaeaaGreatDoor
namespace Go.Proofs.YtmkkeacbabmaeaaGreatDoor
open Go.RowKit Go.PlainAid

/-- The deferred closure where a fault goes by: it is kept as the error. -/
theorem catch_fault (p : Addr) (pv : Value) (w : World) (hc : w.cell? p = some .nilIface) (hz : w.frozen? p = false) :
    CallsD Tryz.prog 21 #[.pointer (some p)] (.panicking [{ v := .iface 57 pv, recovered := false }]) w fun e u' w' =>
      e = .returned (.tuple #[]) ∧ u' = .panicking [{ v := .iface 57 pv, recovered := true }] ∧ w' = w.setCell p (.iface 57 pv) := by
  have hta : ∀ W : World, (Instr.typeAssert (.iface 57 pv) 20 57 true).run Tryz.prog W = .ok (.tuple #[pv, .bool true]) W := fun W => by
    simp [Instr.typeAssert, run_underlying Tryz.underlying57]
  refine callsD_of_wpS Tryz.func21 rfl fun c₀ cs hu => ?_
  apply wpS_seq
  apply wpS_region
  simp [wpOpsS, go_sem, recoverD, hu, Tryz.ntmps21, Exit.thenS]
  apply wpS_seq
  apply wpS_region
  simp [wpOpsS, go_sem, recoverD, hu, Exit.thenS]
  refine wpS_cond (t := true) (by simp [Act.eval]) ?_
  simp only [if_true]
  apply wpS_seq
  apply wpS_region
  simp [wpOpsS, go_sem, recoverD, hu, Exit.thenS, hta]
  apply wpS_seq
  apply wpS_region
  simp [wpOpsS, go_sem, recoverD, hu, Exit.thenS]
  refine wpS_cond (t := true) (by simp [Act.eval]) ?_
  simp only [if_true]
  apply wpS_region
  simp [wpOpsS, go_sem, hc, hz, bodyPostS, results, Tryz.results21]
theorem catch_none (p : Addr) (w : World) :
    CallsD Tryz.prog 21 #[.pointer (some p)] .returning w fun e u' w' => e = .returned (.tuple #[]) ∧ u' = .returning ∧ w' = w := by
  refine callsD_of_wpS Tryz.func21 rfl fun c₀ cs hu => ?_
  apply wpS_seq
  apply wpS_region
  simp [wpOpsS, go_sem, recoverD, hu, Tryz.ntmps21, Exit.thenS]
  apply wpS_seq
  apply wpS_region
  simp [wpOpsS, go_sem, recoverD, hu, Exit.thenS]
  refine wpS_cond (t := false) (by simp [Act.eval]) ?_
  simp only [Bool.false_eq_true, if_false]
  refine wpS_of_wp (wp_skip ?_)
  cases c₀
  simp_all [bodyPostS, results, Tryz.results21]

/-- What NextToken leaves: the token, or an error. -/
def TokenPost (s : ByteArray) (b f B i : Nat) (x : LxS) (w : World) (e : Ending) (w' : World) : Prop :=
  match (gapFrom s (s.size + 1) i []).bind fun g => (tokOf s g.2.2 x.dot (dottedB x.kind)).map fun r => (g, r) with
  | none => ∃ v p, e = .returned (.iface 57 v) ∧ ErrAt w' v p ∧ Low B w w'
  | some q => e = .returned .nilIface ∧ Only b w w' ∧ ∃ v, LxAt w' b f (nextLx s x q.1 q.2 v) ∧ MRow w' w.heap.size v q.1.1
theorem NextPost.cases {s : ByteArray} {b f B i : Nat} {x : LxS} {w : World} {e : Ending} {w' : World} (h : NextPost s b f B i x w e w') :
    ((gapFrom s (s.size + 1) i []).bind (fun g => (tokOf s g.2.2 x.dot (dottedB x.kind)).map fun r => (g, r)) = none ∧ Thrown B w e w') ∨
    ∃ q : (List CmtD × Nat × Nat) × TokR, (gapFrom s (s.size + 1) i []).bind (fun g => (tokOf s g.2.2 x.dot (dottedB x.kind)).map fun r => (g, r)) = some q ∧ e = .returned (.tuple #[]) ∧ Only b w w' ∧ ∃ v, LxAt w' b f (nextLx s x q.1 q.2 v) ∧ MRow w' w.heap.size v q.1.1 := by
  unfold NextPost at h
  cases hg : gapFrom s (s.size + 1) i [] with
  | none => rw [hg] at h; exact Or.inl ⟨rfl, h⟩
  | some g =>
    rw [hg] at h
    simp only [] at h
    cases ht : tokOf s g.2.2 x.dot (dottedB x.kind) with
    | none => rw [ht] at h; exact Or.inl ⟨by simp [ht], h⟩
    | some r => rw [ht] at h; exact Or.inr ⟨(g, r), by simp [ht], h⟩

set_option maxHeartbeats 4000000 in
set_option maxRecDepth 100000 in
theorem NextToken_c (s : ByteArray) (b f i B : Nat) (x : LxS) (w : World) (hT : TextOk s) (hE : Env s b f B w) (hx : LxAt w b f x) (hp : x.pos = i) (hi : i ≤ s.size) :
    Calls Tryz.prog 13 #[.pointer (some ⟨b, 0, none⟩)] w (TokenPost s b f B i x w) := by
  have hmf : ∀ (fn : Fn) (first cap : Array Value) (w : World), (Instr.makeFunc fn first cap).run Tryz.prog w = .ok (.func fn first cap) w := fun _ _ _ _ => rfl
  have hO0 := (Only.refl b w).alloc (.cells #[.nilIface] 36)
  have hlt := hx.lt
  have Hnt := Lib.hid (nextToken_c s b f i B x (w.alloc (.cells #[.nilIface] 36)) hT (hE.only hO0) (alloc_keeps hx) hp hi)
  have HE := Lib.hid hE
  have Hx := Lib.hid hx
  have HO0 := Lib.hid hO0
  clear hT hE hx hp hO0
  go_enter_defers Tryz.func13, Tryz.ntmps13
  go_wp2_with fail
  refine Hnt.out.mono ?_
  rintro e w1 k
  rcases k.cases with ⟨hn, hth⟩ | ⟨q, hq, rfl, hO, v, hl, hr⟩
  · obtain ⟨v, p, rfl, herr, hlow⟩ := hth
    have hblk : w1.heap[w.heap.size]? = some (.cells #[.nilIface] 36 (0, 0)) := by
      have e0 : (w.alloc (.cells #[.nilIface] 36)).heap[w.heap.size]? = some (.cells #[.nilIface] 36 (0, 0)) := heap_alloc_new w _
      rw [hlow.kp.block w.heap.size (by simp) (by rw [e0]; intro C fr h; injection h with h; injection h with h1 h2 h3; exact absurd h2 (by decide)) (by rw [e0]; intro C fr h; injection h with h; injection h with h1 h2 h3; exact absurd h2 (by decide))]
      exact e0
    have hc : w1.cell? ⟨w.heap.size, 0, none⟩ = some .nilIface := by simp [World.cell?, hblk]
    have hz : w1.frozen? ⟨w.heap.size, 0, none⟩ = false := by simp [World.frozen?, hblk]
    refine leaves_cons (f := 21) (args := #[.pointer (some ⟨w.heap.size, 0, none⟩)]) (by simp) (by simp [go_sem]) ?_
    refine (catch_fault ⟨w.heap.size, 0, none⟩ v w1 hc hz).mono ?_
    rintro e u' w2 ⟨rfl, rfl, rfl⟩
    have hT : TokenPost s b f B i x w (.returned (.iface 57 v)) (w1.setCell ⟨w.heap.size, 0, none⟩ (.iface 57 v)) := by
      unfold TokenPost
      rw [hn]
      refine ⟨v, p, rfl, ?_, ?_, ?_⟩
      · obtain ⟨e1, g1, h1, h2, h3, h4, h5⟩ := herr
        have hne : ∀ k u, w1.cell? ⟨k, 1, none⟩ = some u → k ≠ w.heap.size := by
          intro k u hk e
          subst e
          simp [World.cell?, hblk] at hk
        refine ⟨e1, g1, h1, ?_, ?_, by simpa [World.setCell] using h4, by simpa [World.setCell] using h5⟩
        · rw [World.cell?_of_block (w := w1) (a := ⟨e1, 1, none⟩) (RowKit.Below.heap_setCell _ _ _ _ (hne _ _ h2))]; exact h2
        · rw [World.cell?_of_block (w := w1) (a := ⟨g1, 1, none⟩) (RowKit.Below.heap_setCell _ _ _ _ (hne _ _ h3))]; exact h3
      · exact (((RowKit.Below.refl B w).alloc HE.out.bw _).trans hlow.below).setCell (p := ⟨w.heap.size, 0, none⟩) HE.out.bw _
      · have kpB := (Kp.of_below ((RowKit.Below.refl w.heap.size w).alloc (Nat.le_refl _) (.cells #[.nilIface] 36))).trans hlow.kp
        refine ⟨by have := kpB.size; simpa [World.setCell] using this, fun k hk h1 h2 => ?_⟩
        exact (RowKit.Below.heap_setCell _ _ _ _ (by show k ≠ w.heap.size; omega)).trans (kpB.block k hk h1 h2)
    have hcell : World.cell? (w1.setCell ⟨w.heap.size, 0, none⟩ (.iface 57 v)) ⟨w.heap.size, 0, none⟩ = some (.iface 57 v) := by
      have e0 := setCell_block (v := .iface 57 v) (j := 0) hblk
      simp [World.cell?, e0]
    simp [Leaves, settle, results, Tryz.results13, go_sem]
    exact ⟨_, by rw [hcell], hT⟩
  · go_wp2_with fail
    refine leaves_cons (f := 21) (args := #[.pointer (some ⟨w.heap.size, 0, none⟩)]) (by simp) (by simp [go_sem]) ?_
    refine (catch_none ⟨w.heap.size, 0, none⟩ w1).mono ?_
    rintro e u' w2 ⟨rfl, rfl, rfl⟩
    have hcell : World.cell? w2 ⟨w.heap.size, 0, none⟩ = some .nilIface := by
      have e0 : (w.alloc (.cells #[.nilIface] 36)).heap[w.heap.size]? = some (.cells #[.nilIface] 36 (0, 0)) := heap_alloc_new w _
      have e1 : w2.heap[w.heap.size]? = some (.cells #[.nilIface] 36 (0, 0)) := (hO.block w.heap.size (by simp) (by omega)).trans e0
      simp [World.cell?, e1]
    have hT : TokenPost s b f B i x w (.returned .nilIface) w2 := by
      unfold TokenPost
      rw [hq]
      exact ⟨rfl, HO0.out.trans hO, v, hl, hr.base (by simp)⟩
    simp [Leaves, settle, results, Tryz.results13, go_sem]
    exact ⟨_, by rw [hcell], hT⟩
end Go.Proofs.YtmkkeacbabmaeaaGreatDoor
namespace Go.Proofs.YtmkkeacbabmaeaaGreatDoor
open Go.RowKit Go.Extern.Stop Go.Stop Go.Extern

theorem err_as_nil (t : Value) (w : World) :
    Calls Tryz.prog 23 #[.nilIface, t] w fun e w' => e = .returned (.bool false) ∧ w' = w := by
  go_enter Tryz.func23, Tryz.ntmps23
  go_wp2
  go_ret
  exact ⟨rfl, rfl⟩

theorem aas_valueOf27 (t : Addr) (w : World) : (ReflectliteValue.unpack (.iface 61 (.pointer (some t)))).run Tryz.prog w
    = .ok (.agg #[.pointer (some ⟨12, 61, none⟩), .pointer (some ⟨w.heap.size, 0, none⟩), .int .u64 150]) (w.alloc (.cells #[.pointer (some t)] 61)) := by kernel_rfl
theorem aas_type27 (a : Addr) (w : World) : (ReflectliteValue.methodAny (ReflectliteValue.valueError "reflectlite.Value.Type" 0) (fun t _ _ _ => ReflectliteType.toType t) #[.agg #[.pointer (some ⟨12, 61, none⟩), .pointer (some a), .int .u64 150]]).run Tryz.prog w
    = .ok (.iface 108 (.agg #[.pointer (some ⟨12, 61, none⟩)])) w := by kernel_rfl
theorem aas_methodKind (h : Value) (w : World) : (Go.method 331 108 (.agg #[h]) "Kind").run Tryz.prog w = .ok (152, h) w := by kernel_rfl
theorem aas_kind27 (w : World) : ((ReflectliteType.abiMethod fun t => (fun a : Nat => Value.int IntKind.u8 (a : Int)) <$> Rtype.kind t) #[.pointer (some ⟨12, 61, none⟩)]).run Tryz.prog w = .ok (.int .u8 22) w := by kernel_rfl
theorem aas_kind25 (w : World) : ((ReflectliteType.abiMethod fun t => (fun a : Nat => Value.int IntKind.u8 (a : Int)) <$> Rtype.kind t) #[.pointer (some ⟨12, 57, none⟩)]).run Tryz.prog w = .ok (.int .u8 22) w := by kernel_rfl

theorem err_rlm (z : Sem Value) (f : TypeId → Addr → Nat → Nat → Sem Value) (v : Value) :
    ReflectliteValue.method z f #[v] = (do match ← ReflectliteValue.parts v with | none => z | some (t, a, fl) => f t a fl (fl % 32)) := rfl
theorem aas_parts27 (a : Addr) (w : World) : (ReflectliteValue.parts (.agg #[.pointer (some ⟨12, 61, none⟩), .pointer (some a), .int .u64 150])).run Tryz.prog w = .ok (some (61, a, 150)) w := by kernel_rfl
/-- (Value).IsNil at the Value of a **p.E that is not nil. -/
theorem aas_isNil27 (a p : Addr) (W : World) (ha : W.cell? a = some (.pointer (some p))) :
    (ReflectliteValue.method (ReflectliteValue.valueError "reflectlite.Value.IsNil" 0) ReflectliteValue.isNil #[.agg #[.pointer (some ⟨12, 61, none⟩), .pointer (some a), .int .u64 150]]).run Tryz.prog W = .ok (.bool false) W := by
  rw [err_rlm]
  simp only [Sem.run_bind, aas_parts27, Result.andThen]
  simp [ReflectliteValue.isNil, loadVar, isAgg, underlying, Tryz.underlying61, ha, Result.andThen]

theorem aas_methodElem (h : Value) (w : World) : (Go.method 331 108 (.agg #[h]) "Elem").run Tryz.prog w = .ok (165, .agg #[h]) w := by kernel_rfl
theorem aas_methodImplements (h : Value) (w : World) : (Go.method 331 108 (.agg #[h]) "Implements").run Tryz.prog w = .ok (166, .agg #[h]) w := by kernel_rfl
theorem aas_methodAssignableTo (h : Value) (w : World) : (Go.method 331 108 (.agg #[h]) "AssignableTo").run Tryz.prog w = .ok (163, .agg #[h]) w := by kernel_rfl
theorem aas_elem27 (w : World) : (ReflectliteType.method ReflectliteType.elem #[.agg #[.pointer (some ⟨12, 61, none⟩)]]).run Tryz.prog w = .ok (.iface 108 (.agg #[.pointer (some ⟨12, 57, none⟩)])) w := by kernel_rfl
theorem aas_implements25 (w : World) : (ReflectliteType.relation "Implements" ReflectliteType.implements_ #[.agg #[.pointer (some ⟨12, 57, none⟩)], .iface 108 (.agg #[.pointer (some ⟨12, 36, none⟩)])]).run Tryz.prog w = .ok (.bool true) w := by kernel_rfl
theorem aas_typeOf25 (v : Value) (w : World) : (ReflectliteType.typeOf #[.iface 57 v]).run Tryz.prog w = .ok (.iface 108 (.agg #[.pointer (some ⟨12, 57, none⟩)])) w := by kernel_rfl
theorem aas_assignable25 (w : World) : (ReflectliteType.relation "AssignableTo" ReflectliteType.assignableTo #[.agg #[.pointer (some ⟨12, 57, none⟩)], .iface 108 (.agg #[.pointer (some ⟨12, 57, none⟩)])]).run Tryz.prog w = .ok (.bool true) w := by kernel_rfl
theorem aas_valueOf25 (e : Addr) (w : World) : (ReflectliteValue.unpack (.iface 57 (.pointer (some e)))).run Tryz.prog w
    = .ok (.agg #[.pointer (some ⟨12, 57, none⟩), .pointer (some ⟨w.heap.size, 0, none⟩), .int .u64 150]) (w.alloc (.cells #[.pointer (some e)] 57)) := by kernel_rfl

theorem aas_elemOf27 (w : World) : (Rtype.elem? 61).run Tryz.prog w = .ok (some 57) w := by kernel_rfl
theorem aas_mk25 (p : Addr) (w : World) : (ReflectliteValue.mk 57 p ReflectliteValue.flagAddr).run Tryz.prog w = .ok (.agg #[.pointer (some ⟨12, 57, none⟩), .pointer (some p), .int .u64 406]) w := by kernel_rfl
/-- (Value).Elem at the Value of a **p.E that is not nil: the Value of the *p.E variable that it points to, addressable. -/
theorem aas_elemV27 (a p : Addr) (W : World) (ha : W.cell? a = some (.pointer (some p))) :
    (ReflectliteValue.method (ReflectliteValue.valueError "reflectlite.Value.Elem" 0) ReflectliteValue.elem #[.agg #[.pointer (some ⟨12, 61, none⟩), .pointer (some a), .int .u64 150]]).run Tryz.prog W
      = .ok (.agg #[.pointer (some ⟨12, 57, none⟩), .pointer (some p), .int .u64 406]) W := by
  rw [err_rlm]
  simp only [Sem.run_bind, aas_parts27, Result.andThen]
  simp [ReflectliteValue.elem, loadVar, isAgg, underlying, Tryz.underlying61, ha, Result.andThen, aas_elemOf27, aas_mk25]
theorem err_rls (v x : Value) : ReflectliteValue.set #[v, x] = (do
    let (some (dst, a, fl), some (src, b, _)) := (← ReflectliteValue.parts v, ← ReflectliteValue.parts x)
      | unsupported (.noEntry "extern/(internal/reflectlite.Value).Set.zeroValue")
    if fl / ReflectliteValue.flagAddr % 2 == 0 then unsupported (.noEntry "extern/(internal/reflectlite.Value).Set.unaddressable")
    let val ← loadVar src b
    if ← Rtype.directlyAssignable dst src then storeVar dst a val
    else if ← Rtype.implements dst src then
      if (← Rtype.kind src) == 20 then
        match val with
        | .nilIface => unsupported (.noEntry "extern/reflectlite: a nil value of one interface type handed on as a value of another")
        | _ => storeVar dst a val
      else storeVar dst a (.iface src val)
    else panicString ("reflectlite.Set: value of type " ++ (← Rtype.spelt src) ++ " is not assignable to type " ++ (← Rtype.spelt dst))
    pure (.tuple #[])) := rfl
theorem aas_parts25a (a : Addr) (w : World) : (ReflectliteValue.parts (.agg #[.pointer (some ⟨12, 57, none⟩), .pointer (some a), .int .u64 406])).run Tryz.prog w = .ok (some (57, a, 406)) w := by kernel_rfl
theorem aas_parts25 (a : Addr) (w : World) : (ReflectliteValue.parts (.agg #[.pointer (some ⟨12, 57, none⟩), .pointer (some a), .int .u64 150])).run Tryz.prog w = .ok (some (57, a, 150)) w := by kernel_rfl
theorem aas_direct25 (w : World) : (Rtype.directlyAssignable 57 57).run Tryz.prog w = .ok true w := by kernel_rfl
theorem aas_size25 (w : World) : (sizeOf 57).run Tryz.prog w = .ok 1 w := by kernel_rfl
/-- (Value).Set: the *p.E variable at 'ta' gets what the Value's own variable 'b' holds. -/
theorem aas_set25 (ta b e : Addr) (old : Value) (W : World) (hb : W.cell? b = some (.pointer (some e))) (ht : W.cell? ta = some old) (hf : W.frozen? ta = false) :
    (ReflectliteValue.set #[.agg #[.pointer (some ⟨12, 57, none⟩), .pointer (some ta), .int .u64 406], .agg #[.pointer (some ⟨12, 57, none⟩), .pointer (some b), .int .u64 150]]).run Tryz.prog W
      = .ok (.tuple #[]) (W.setCell ta (.pointer (some e))) := by
  rw [err_rls]
  simp only [Sem.run_bind, aas_parts25a, aas_parts25, Result.andThen]
  simp [ReflectliteValue.flagAddr, loadVar, isAgg, underlying, Tryz.underlying57, hb, Result.andThen, aas_direct25, storeVar, Value.cells, storeCells, Addr.add]
  rw [run_store Tryz.prog W ta _ _ (by rfl)]
  simp [ht, hf]

set_option maxHeartbeats 4000000 in
set_option maxRecDepth 100000 in
theorem err_as_hit (e t : Addr) (old : Value) (w : World) (hg : w.cell? ⟨0, 0, none⟩ = some (.iface 108 (.agg #[.pointer (some ⟨12, 36, none⟩)]))) (ht0 : w.cell? t = some old) (hf0 : w.frozen? t = false) :
    Calls Tryz.prog 23 #[.iface 57 (.pointer (some e)), .iface 61 (.pointer (some t))] w fun ev w' => ev = .returned (.bool true) ∧ w' = ((((w.alloc (.cells #[.pointer (some t)] 61)).alloc (.cells #[.pointer (some ⟨12, 61, none⟩), .pointer (some ⟨w.heap.size, 0, none⟩), .int .u64 150] 80)).alloc (.cells #[.pointer (some ⟨12, 61, none⟩), .pointer (some ⟨w.heap.size, 0, none⟩), .int .u64 150] 80)).alloc (.cells #[.pointer (some e)] 57)).setCell t (.pointer (some e)) := by
  have h6 := @run_callFunc_extern Tryz.prog 39 _ (fun args => ReflectliteValue.unpack (args.getD 0 (.tuple #[]))) Tryz.func39 (by kernel_rfl) (by kernel_rfl) (by kernel_rfl) (by kernel_rfl)
  have h7 := @run_callFunc_extern Tryz.prog 40 _ (ReflectliteValue.methodAny (ReflectliteValue.valueError "reflectlite.Value.Type" 0) (fun t _ _ _ => ReflectliteType.toType t)) Tryz.func40 (by kernel_rfl) (by kernel_rfl) (by kernel_rfl) (by kernel_rfl)
  have h8 := @run_callFunc_extern Tryz.prog 41 _ (ReflectliteValue.method (ReflectliteValue.valueError "reflectlite.Value.IsNil" 0) ReflectliteValue.isNil) Tryz.func41 (by kernel_rfl) (by kernel_rfl) (by kernel_rfl) (by kernel_rfl)
  have h27 := @run_callFunc_extern Tryz.prog 152 _ (ReflectliteType.abiMethod fun t => do pure (.int .u8 (← Rtype.kind t))) Tryz.func152 (by kernel_rfl) (by kernel_rfl) (by kernel_rfl) (by kernel_rfl)
  have h37 := @run_callFunc_extern Tryz.prog 165 _ (ReflectliteType.method ReflectliteType.elem) Tryz.func165 (by kernel_rfl) (by kernel_rfl) (by kernel_rfl) (by kernel_rfl)
  have h38 := @run_callFunc_extern Tryz.prog 166 _ (ReflectliteType.relation "Implements" ReflectliteType.implements_) Tryz.func166 (by kernel_rfl) (by kernel_rfl) (by kernel_rfl) (by kernel_rfl)
  have h10 := @run_callFunc_extern Tryz.prog 69 _ ReflectliteType.typeOf Tryz.func69 (by kernel_rfl) (by kernel_rfl) (by kernel_rfl) (by kernel_rfl)
  have h35 := @run_callFunc_extern Tryz.prog 163 _ (ReflectliteType.relation "AssignableTo" ReflectliteType.assignableTo) Tryz.func163 (by kernel_rfl) (by kernel_rfl) (by kernel_rfl) (by kernel_rfl)
  have h11 := @run_callFunc_extern Tryz.prog 70 _ (ReflectliteValue.method (ReflectliteValue.valueError "reflectlite.Value.Elem" 0) ReflectliteValue.elem) Tryz.func70 (by kernel_rfl) (by kernel_rfl) (by kernel_rfl) (by kernel_rfl)
  have h12 := @run_callFunc_extern Tryz.prog 71 _ ReflectliteValue.set Tryz.func71 (by kernel_rfl) (by kernel_rfl) (by kernel_rfl) (by kernel_rfl)
  have tO := aas_typeOf25
  have mA := aas_methodAssignableTo
  have a25 := aas_assignable25
  have v25 := aas_valueOf25
  have f6 := aas_valueOf27
  have f7 := aas_type27
  have mK := aas_methodKind
  have mE := aas_methodElem
  have mI := aas_methodImplements
  have k27 := aas_kind27
  have k25 := aas_kind25
  have e27 := aas_elem27
  have i25 := aas_implements25
  have n8 := aas_isNil27 ⟨w.heap.size, 0, none⟩ t ((w.alloc (.cells #[.pointer (some t)] 61)).alloc (.cells #[.pointer (some ⟨12, 61, none⟩), .pointer (some ⟨w.heap.size, 0, none⟩), .int .u64 150] 80)) (by simp)
  have hlt : 0 < w.heap.size := by
    rcases Nat.eq_zero_or_pos w.heap.size with h0 | h
    · simp [World.cell?, h0] at hg
    · exact h
  have hg2 : ((w.alloc (.cells #[.pointer (some t)] 61)).alloc (.cells #[.pointer (some ⟨12, 61, none⟩), .pointer (some ⟨w.heap.size, 0, none⟩), .int .u64 150] 80)).cell? ⟨0, 0, none⟩ = some (.iface 108 (.agg #[.pointer (some ⟨12, 36, none⟩)])) := by
    rw [World.cell?_alloc_lt _ _ ⟨0, 0, none⟩ (by simp), World.cell?_alloc_lt _ _ ⟨0, 0, none⟩ hlt]; exact hg
  have htl : t.block < w.heap.size := by
    rcases Nat.lt_or_ge t.block w.heap.size with h | h
    · exact h
    · simp [World.cell?, Array.getElem?_eq_none h] at ht0
  have el := aas_elemV27 ⟨w.heap.size, 0, none⟩ t (((w.alloc (.cells #[.pointer (some t)] 61)).alloc (.cells #[.pointer (some ⟨12, 61, none⟩), .pointer (some ⟨w.heap.size, 0, none⟩), .int .u64 150] 80)).alloc (.cells #[.pointer (some ⟨12, 61, none⟩), .pointer (some ⟨w.heap.size, 0, none⟩), .int .u64 150] 80)) (by rw [World.cell?_alloc_lt _ _ ⟨w.heap.size, 0, none⟩ (by simp; omega)]; simp)
  have st := aas_set25 t ⟨w.heap.size + 1 + 1 + 1, 0, none⟩ e old ((((w.alloc (.cells #[.pointer (some t)] 61)).alloc (.cells #[.pointer (some ⟨12, 61, none⟩), .pointer (some ⟨w.heap.size, 0, none⟩), .int .u64 150] 80)).alloc (.cells #[.pointer (some ⟨12, 61, none⟩), .pointer (some ⟨w.heap.size, 0, none⟩), .int .u64 150] 80)).alloc (.cells #[.pointer (some e)] 57))
    (by rw [World.cell?_alloc_at _ _ _ _ (by simp)]; rfl)
    (by rw [World.cell?_alloc_lt _ _ t (by simp; omega), World.cell?_alloc_lt _ _ t (by simp; omega), World.cell?_alloc_lt _ _ t (by simp; omega), World.cell?_alloc_lt _ _ t htl]; exact ht0)
    (by rw [World.frozen?_alloc_old _ _ t (by simp; omega), World.frozen?_alloc_old _ _ t (by simp; omega), World.frozen?_alloc_old _ _ t (by simp; omega), World.frozen?_alloc_old _ _ t (Nat.ne_of_lt htl)]; exact hf0)
  go_enter Tryz.func23, Tryz.ntmps23
  go_wp2
  refine wp_loop_rounds 1 ?_
  rw [rounds_succ]
  go_wp2
  go_ret
  exact ⟨rfl, rfl⟩
end Go.Proofs.YtmkkeacbabmaeaaGreatDoor
namespace Go.Proofs.YtmkkeacbabmaeaaGreatDoor
open Go.RowKit Go.PlainAid

/-- What errors.As looks up. -/
def errVar : Value := .iface 108 (.agg #[.pointer (some ⟨12, 36, none⟩)])
set_option maxHeartbeats 2000000 in
set_option maxRecDepth 100000 in
theorem placeOf_c (v : Value) (p : Nat) (w : World) (herr : ErrAt w v p) (hg : w.cell? ⟨0, 0, none⟩ = some errVar) :
    Calls Tryz.prog 14 #[.iface 57 v] w fun e w' => e = .returned (.int .i64 p) ∧ RowKit.Below w.heap.size w w' := by
  obtain ⟨e1, g1, rfl, h2, h3, h4, h5⟩ := herr
  have h0 := cell_lt hg
  have hcall := err_as_hit ⟨e1, 0, none⟩ ⟨w.heap.size, 0, none⟩ (.pointer none) (w.alloc (.cells #[.pointer none] 57)) (by rw [World.cell?_alloc_lt _ _ ⟨0, 0, none⟩ h0]; exact hg) (World.cell?_alloc_mark w _ _ _ 0) (World.frozen?_alloc_new _ _ _ _)
  have Hcall := Lib.hid hcall
  clear hcall hg
  go_enter Tryz.func14, Tryz.ntmps14
  go_wp2_with fail
  refine Hcall.out.mono ?_
  rintro e w' ⟨rfl, hw⟩
  have hbel : RowKit.Below w.heap.size w w' := by
    rw [hw]
    exact ((((((RowKit.Below.refl w.heap.size w).alloc (Nat.le_refl _) _).alloc (by simp) _).alloc (by simp; omega) _).alloc (by simp; omega) _).alloc (by simp; omega) _).setCell (p := ⟨w.heap.size, 0, none⟩) (Nat.le_refl _) _
  have c0 : w'.cell? ⟨w.heap.size, 0, none⟩ = some (.pointer (some ⟨e1, 0, none⟩)) := by
    have hb0 := heap_alloc_new w (.cells #[.pointer none] 57)
    have hb1 := fun (o1 o2 o3 o4 : Obj) => (((((RowKit.Below.refl (w.heap.size + 1) (w.alloc (.cells #[.pointer none] 57))).alloc (by simp) o1).alloc (by simp) o2).alloc (by simp <;> omega) o3).alloc (by simp <;> omega) o4).block w.heap.size (by omega)
    have e0 := fun (o1 o2 o3 o4 : Obj) => setCell_block (v := .pointer (some ⟨e1, 0, none⟩)) (j := 0) ((hb1 o1 o2 o3 o4).trans hb0)
    rw [hw]
    simp only [World.cell?, e0]
    rfl
  have c1 : w'.cell? ⟨e1, 1, none⟩ = some (.pointer (some ⟨g1, 0, none⟩)) := (hbel.cell (p := ⟨e1, 1, none⟩) h4).trans h2
  have c2 : w'.cell? ⟨g1, 1, none⟩ = some (.int .i64 p) := (hbel.cell (p := ⟨g1, 1, none⟩) h5).trans h3
  clear hw
  go_wp2_with fail
  go_ret
  exact ⟨rfl, hbel⟩
end Go.Proofs.YtmkkeacbabmaeaaGreatDoor
namespace Go.Proofs.YtmkkeacbabmaeaaGreatDoor
open Go.RowKit Go.PlainAid

/-- What the reference's tokens are in memory: a list, or (a fault) some list and a place. -/
def LexPost (s : ByteArray) (w : World) (e : Ending) (w' : World) : Prop :=
  Below w.heap.size w w' ∧ match specLex s with
  | none => ∃ (v : Value) (ts : List (TokD × Value)) (a : Nat) (A : Option Addr) (c : Nat), e = .returned (.tuple #[v, .int .i64 a, .bool false]) ∧ v = .slice A ts.length c ∧ TokRow w' w.heap.size v ts
  | some l => ∃ (v : Value) (ts : List (TokD × Value)) (A : Option Addr) (c : Nat), e = .returned (.tuple #[v, .int .i64 0, .bool true]) ∧ v = .slice A ts.length c ∧ TokRow w' w.heap.size v ts ∧ ts.map Prod.fst = l

def x0 (cm : Value) (sp : ByteArray) : TokS := ⟨⟨#[]⟩, sp, ⟨#[]⟩, ⟨#[]⟩, 0, 0, 0, cm⟩
theorem tokAt_new (w : World) : TokAt (w.alloc (.cells #[.string ⟨#[]⟩, .string ⟨#[]⟩, .string ⟨#[]⟩, .string ⟨#[]⟩, .int .i64 0, .int .i64 0, .int .i64 0, .slice none 0 0] 31)) w.heap.size (x0 (.slice none 0 0) ⟨#[]⟩) := by
  show (w.heap.push _)[w.heap.size]? = _
  simp [x0]

theorem grown_tok {w w1 : World} {o : Obj} {b : Nat} {x : TokS} {row : Option Nat} (ht : TokAt w b x) (hg : ((w.alloc o).drew).grownBy w1 row) (hne : row ≠ some b) : TokAt w1 b x := by
  refine ht.kept ?_
  rw [hg.block b (by have := ht.lt; simp; omega) (fun h => hne h.symm)]
  exact Below.heap_alloc w o b ht.lt
theorem grown_below {w w0 w1 : World} {o : Obj} {B : Nat} {v : Value} {e s n : Nat} {xs : List Value} (hb : Below B w0 w) (hB : B ≤ w.heap.size) (hown : w.ownsRow B e s v n xs) (hg : ((w.alloc o).drew).grownBy w1 v.ownBlock) : Below B w0 w1 :=
  (((hb.alloc hB o).drew).grown hg (by simp; omega) (fun k hk => (hown.lt k hk).1))
theorem grown_tok2 {w w1 : World} {o : Obj} {b : Nat} {x : TokS} {row : Option Nat} (ht : TokAt w b x) (hg : (w.alloc o).grownBy w1 row) (hne : row ≠ some b) : TokAt w1 b x := by
  refine ht.kept ?_
  rw [hg.block b (by have := ht.lt; simp; omega) (fun h => hne h.symm)]
  exact Below.heap_alloc w o b ht.lt
theorem lexPost_bad' {s : ByteArray} {w w' : World} {A : Option Addr} {c a n : Nat} {ts : List (TokD × Value)} (h : specLex s = none) (hb : Below w.heap.size w w') (hn : n = ts.length) (ht : TokRow w' w.heap.size (.slice A n c) ts) :
    LexPost s w (.returned (.tuple #[.slice A n c, .int .i64 a, .bool false])) w' := by
  subst hn
  refine ⟨hb, ?_⟩
  rw [h]
  exact ⟨_, ts, a, A, c, rfl, rfl, ht⟩
theorem lexPost_good {s : ByteArray} {w w' : World} {A : Option Addr} {c n : Nat} {ts : List (TokD × Value)} {l : List TokD} (h : specLex s = some l) (hb : Below w.heap.size w w') (hn : n = ts.length) (ht : TokRow w' w.heap.size (.slice A n c) ts) (hl : ts.map Prod.fst = l) :
    LexPost s w (.returned (.tuple #[.slice A n c, .int .i64 0, .bool true])) w' := by
  subst hn
  refine ⟨hb, ?_⟩
  rw [h]
  exact ⟨_, ts, A, c, rfl, rfl, ht, hl⟩
theorem lexPost_bad {s : ByteArray} {w w' : World} {A : Option Addr} {c a : Nat} {ts : List (TokD × Value)} (h : specLex s = none) (hb : Below w.heap.size w w') (ht : TokRow w' w.heap.size (.slice A ts.length c) ts) :
    LexPost s w (.returned (.tuple #[.slice A ts.length c, .int .i64 a, .bool false])) w' := by
  refine ⟨hb, ?_⟩
  rw [h]
  exact ⟨_, ts, a, A, c, rfl, rfl, ht⟩

set_option maxHeartbeats 12800000 in
set_option maxRecDepth 100000 in
theorem Lex_c (s : ByteArray) (w : World) (hs : s.size ≤ 274877906944) :
    Calls Tryz.prog 9 #[.string s] w (LexPost s w) := by
  obtain ⟨ic, hic, hcz0, hcz1, hcz2⟩ := info_parts info_cmt
  obtain ⟨it, hit, htz0, htz1, htz2⟩ := info_parts info_tok
  go_enter Tryz.func9, Tryz.ntmps9
  go_wp2_with fail
  go_loopg [5, 6] (s.size + 2) (fun kq v5 v6 wr => ∃ (i : Nat) (ts : List (TokD × Value)) (A : Option Addr) (c : Nat), v5 = .slice A ts.length c ∧ v6 = .int .i64 i ∧ i ≤ s.size ∧ ts.length ≤ i ∧ s.size + 2 ≤ i + kq ∧ TokRow wr w.heap.size v5 ts ∧ Below w.heap.size w wr ∧ Hid (lexFrom s kq i (ts.map Prod.fst) = specLex s))
  case atStart => exact ⟨0, [], none, 0, rfl, rfl, by omega, by simp, by omega, TokRow.nil _ _, Below.refl _ _, rfl⟩
  case round =>
    obtain ⟨i, ts, A, c, rfl, rfl, hi, hlen, hfu, hrow, hbw, hr⟩ := hrel
    obtain ⟨f, rfl⟩ : ∃ g, gk = g + 1 := ⟨gk - 1, by omega⟩
    obtain ⟨wo, rfl⟩ : ∃ wo : World, wo = wr := ⟨_, rfl⟩
    go_upto_block 2 with fail
    have hx0 := tokAt_new wo
    have hal : Below wo.heap.size wo (wo.alloc (.cells #[.string ⟨#[]⟩, .string ⟨#[]⟩, .string ⟨#[]⟩, .string ⟨#[]⟩, .int .i64 0, .int .i64 0, .int .i64 0, .slice none 0 0] 31)) := (Below.refl _ _).alloc (Nat.le_refl _) _
    have hwb := hbw.size
    obtain ⟨W1, hW1⟩ : ∃ W1, wo.alloc (.cells #[.string ⟨#[]⟩, .string ⟨#[]⟩, .string ⟨#[]⟩, .string ⟨#[]⟩, .int .i64 0, .int .i64 0, .int .i64 0, .slice none 0 0] 31) = W1 := ⟨_, rfl⟩
    rw [hW1] at hx0 hal
    rw [hW1]
    clear hW1
    obtain ⟨b, hb⟩ : ∃ b, wo.heap.size = b := ⟨_, rfl⟩
    rw [hb] at hx0 hal hwb
    rw [hb]
    have Hb := Lib.hid hb
    clear hb
    go_cut [6] (fun v6 wc => ∃ (cs : List CmtD) (fr k : Nat) (cv : Value), v6 = .int .i64 k ∧ i ≤ k ∧ k ≤ s.size ∧ fr ≤ k ∧ TokAt wc b (x0 cv (s.extract fr k)) ∧ CmtRow wc w.heap.size cv cs ∧ Below b wo wc ∧ Hid (gapFrom s (s.size + 1) i [] = some (cs, fr, k)))
    case first =>
      go_wp2_with fail
      go_loopw [6] (fun v6 wr => ∃ (kq j : Nat) (cs : List CmtD) (cv : Value), v6 = .int .i64 j ∧ i ≤ j ∧ j ≤ s.size ∧ cs.length ≤ j ∧ s.size + 1 ≤ j + kq ∧ TokAt wr b (x0 cv ⟨#[]⟩) ∧ CmtRow wr b cv cs ∧ Below b wo wr ∧ Hid (gapFrom s kq j cs = gapFrom s (s.size + 1) i [])) (fun v6 _ => s.size - (intOf v6).toNat)
      case atStart => exact ⟨s.size + 1, i, [], .slice none 0 0, rfl, by omega, by omega, by simp, by omega, hx0, CmtRow.nil _ _, hal, rfl⟩
      case round =>
        obtain ⟨gk, j, cs, cv, rfl, hij, hj, hcl, hfu2, htk, hcr, hbx, hr2⟩ := hrel
        obtain ⟨f2, rfl⟩ : ∃ g, gk = g + 1 := ⟨gk - 1, by omega⟩
        have hk1 := blanksEnd_ge s j
        have hk2 := blanksEnd_le s j hj
        have hbl := lBlanks_c s j wr (by omega) hj
        have g1 := fun h => gapFrom_none (s := s) (f := f2) (i := j) (cs := cs) h
        have g2 := fun h => gapFrom_done (s := s) (f := f2) (i := j) (cs := cs) h
        have g3 := fun e h hne => gapFrom_go (s := s) (f := f2) (i := j) (cs := cs) (e := e) h hne
        obtain ⟨k, hk⟩ : ∃ k, blanksEnd s j = k := ⟨_, rfl⟩
        rw [hk] at hk1 hk2 hbl
        simp only [hk] at g1 g2 g3
        clear hk
        have hcm := lComment_c s k wr (by omega) hk2
        have Hbl := Lib.hid hbl
        have G1 := Lib.hid g1
        have G2 := Lib.hid g2
        have G3 := Lib.hid g3
        clear hbl g1 g2 g3
        cases hce : commentEnd s k with
        | none =>
          rw [hce] at hcm
          have hcm2 : Hid (Calls Tryz.prog 17 #[.string s, .int .i64 k] wr fun e w' => e = .returned (.int .i64 (-1)) ∧ wr = w') := hcm
          clear hcm
          have hbad : Hid (specLex s = none) := by show _ = _; rw [← hr.out]; exact lexFrom_gap (by rw [← hr2.out]; exact G1.out hce)
          clear hce
          go_wp2_with (first
            | (go_at_call 16; refine Hbl.out.mono ?_; rintro e w' ⟨rfl, rfl⟩)
            | (go_at_call 17; refine hcm2.out.mono ?_; rintro e w' ⟨rfl, rfl⟩))
          go_ret3
          exact lexPost_bad hbad.out (hbw.trans (hbx.mono hwb)) (hrow.below (by rw [Hb.out]; exact hbx))
        | some e =>
          obtain ⟨he1, he2⟩ := commentEnd_le hk2 hce
          rw [hce] at hcm
          have hcm2 : Hid (Calls Tryz.prog 17 #[.string s, .int .i64 k] wr fun e' w' => e' = .returned (.int .i64 (e : Int)) ∧ wr = w') := hcm
          clear hcm
          by_cases hek : e = k
          · subst hek
            have hg := Lib.hid (G2.out hce)
            clear hce
            have hf1 := htk.free 1
            have hc1 := htk.cell1
            go_wp2_with (first
              | (go_at_call 16; refine Hbl.out.mono ?_; rintro e w' ⟨rfl, rfl⟩)
              | (go_at_call 17; refine hcm2.out.mono ?_; rintro e w' ⟨rfl, rfl⟩))
            go_meet
            case rel => exact ⟨cs, j, e, cv, rfl, by omega, hk2, hk1, htk.setSpace _, (hcr.base hwb).only htk ((Only.refl b wr).setCell 1 _), hbx.setCell (p := ⟨b, 1, none⟩) (Nat.le_refl _) _, by show _ = _; rw [← hr2.out]; exact hg.out⟩
          · have hg := Lib.hid (G3.out e hce hek)
            have hne : ((e : Int) == (k : Int)) = false := by simp; omega
            clear hce
            go_wp2_with (first
              | (go_at_call 16; refine Hbl.out.mono ?_; rintro e w' ⟨rfl, rfl⟩)
              | (go_at_call 17; refine hcm2.out.mono ?_; rintro e w' ⟨rfl, rfl⟩))
            have hf7 := htk.free 7
            obtain ⟨hcrow, A2, c2, rfl⟩ := hcr
            have hc7 : wr.cell? ⟨b, 7, none⟩ = some (.slice A2 cs.length c2) := htk.cell7
            have htlt := htk.lt
            have hjI : (0 : Int) ≤ (j : Int) := by omega
            have hjk : (j : Int) ≤ (k : Int) := by omega
            have hks : (k : Int) ≤ (s.size : Int) := by omega
            have hke : (k : Int) ≤ (e : Int) := by omega
            have hes : (e : Int) ≤ (s.size : Int) := by omega
            go_region_law (refine step_append_lies _ rfl (.tmp 34) (.tmp 46) 29 rfl b 50 ic (.agg #[.string ⟨#[]⟩, .string ⟨#[]⟩, .int .i64 0, .int .i64 0]) 4 48 Tryz.underlying29 hic hcz0 hcz1 hcz2 rfl (by decide) (.slice A2 cs.length c2) cs.length (cs.flatMap cmtCells) (by simp [Act.eval, Act.put]) ((hcrow.alloc _).drew) ⟨wr.heap.size, 0, none⟩ 1 1 (cmtCells ⟨s.extract j k, s.extract k e, k, e⟩) (by simp [Act.eval, Act.put]) rfl (fun q u h => cells_new wr #[.string (s.extract j k), .string (s.extract k e), .int .i64 k, .int .i64 e] 50 q u h) (by intro u hu; simp [cmtCells] at hu; rcases hu with rfl | rfl | rfl | rfl <;> rfl) (by omega) (by unfold maxLen; omega) (by omega) (by simp; omega) _ rfl ?_; intro g cap w1 hown hgrow hat hlt; have ht1 := grown_tok htk hgrow (own_tag_ne hcrow htk (by decide)); have hq7 := ht1.cell7; have hz7 := ht1.free 7)
            all_goals
              have hbw1 := grown_below (by exact hbx) (Nat.le_of_lt htlt) hcrow hgrow
              have hcr1 := cmt_push (c := ⟨s.extract j k, s.extract k e, k, e⟩) rfl rfl hown
              clear hown hgrow hcrow hbx
              go_wp2_with fail
              go_roundw
              case measure =>
                simp [intOf]
                omega
              case rel =>

                exact ⟨f2, e, cs ++ [⟨s.extract j k, s.extract k e, k, e⟩], .slice (some ⟨g, 0, none⟩) (cs.length + 1) cap, rfl, by omega, by omega, by simp; omega, by omega, ht1.setCm _, hcr1.only ht1 ((Only.refl b w1).setCell 7 _), hbw1.setCell (p := ⟨b, 7, none⟩) (Nat.le_refl _) _, by show _ = _; rw [← hr2.out]; exact hg.out.symm⟩
    case rest =>
      obtain ⟨cs, fr, k, cv, rfl, hik, hk, hfr, htk, hcr, hbx, hg⟩ := hcut
      have hrow2 := hrow.below (by rw [Hb.out]; exact hbx)
      obtain ⟨bef, hbef⟩ : ∃ bef, lastKind (ts.map Prod.fst) = bef := ⟨_, rfl⟩
      obtain ⟨pth, hpth⟩ : ∃ pth, pathB (ts.map Prod.fst) = pth := ⟨_, rfl⟩
      obtain ⟨n, hn⟩ : ∃ n, ts.length = n := ⟨_, rfl⟩
      rw [hn] at hrow2
      rw [hn]
      have hnk : n ≤ i := by omega
      have Hn := Lib.hid hn
      clear hn
      go_upto_if 52 with fail
      go_cut [10, 11] (fun v10 v11 wc2 => v10 = .string bef ∧ v11 = .bool pth ∧ wc = wc2)
      case first => as_aux_lemma =>
        clear hbx hcr htk hg hrow hbw
        have h3 : n = 0 ∨ n = 1 ∨ ∃ q, n = q + 2 := by
          cases n with
          | zero => left; rfl
          | succ m => cases m with
            | zero => right; left; rfl
            | succ q => right; right; exact ⟨q, rfl⟩
        have hnl := Hn.out
        clear hlen
        rcases h3 with rfl | rfl | ⟨q, rfl⟩
        · obtain rfl : ts = [] := List.length_eq_zero_iff.1 hnl
          obtain rfl : bef = ⟨#[]⟩ := by rw [← hbef]; rfl
          obtain rfl : pth = false := by rw [← hpth]; exact pathB_nil
          clear hbef hpth
          go_wp2_with fail
          go_meet
          case rel => exact ⟨rfl, rfl, rfl⟩
        · obtain ⟨g, cap, hv, _, _⟩ := hrow2.1.form (by omega)
          have hk0 := lastKind_eq (m := 0) hnl
          rw [hbef] at hk0
          obtain rfl : pth = false := by rw [← hpth]; exact pathB_one hnl
          simp at hv
          obtain ⟨rfl, hvn, rfl⟩ := hv
          clear hvn
          have hc0 : wc.cell? ⟨g, 0, none⟩ = some (.string bef) := by
            have := tokRow_kind hrow2 0 (by omega)
            rw [← hk0] at this
            simpa using this
          clear hbef hpth hrow2 hk0 hnl
          go_wp2_with (go_at_call 18; refine (lDotted_c _ _).mono ?_; rintro e w' ⟨rfl, rfl⟩)
          all_goals
            go_meet
            case rel => exact ⟨rfl, rfl, rfl⟩
        · obtain ⟨g, cap, hv, _, _⟩ := hrow2.1.form (by omega)
          have hk0 := lastKind_eq (m := q + 1) hnl
          have hp2 := pathB_two hnl
          rw [hbef] at hk0
          rw [hpth, ← hk0] at hp2
          simp at hv
          obtain ⟨rfl, hvn, rfl⟩ := hv
          clear hvn
          obtain ⟨kq, hkq⟩ : ∃ kq, (ts[q]'(by omega)).1.kind = kq := ⟨_, rfl⟩
          rw [hkq] at hp2
          have hc1 : wc.cell? ⟨g, (q + 1) * 8, none⟩ = some (.string bef) := by
            have := tokRow_kind hrow2 (q + 1) (by omega)
            rwa [← hk0] at this
          have hc2 : wc.cell? ⟨g, q * 8, none⟩ = some (.string kq) := by
            have := tokRow_kind hrow2 q (by omega)
            rwa [hkq] at this
          have hq1 : q ≤ 274877906944 := by omega
          have Hp2 := Lib.hid hp2
          clear hbef hpth hrow2 hk0 hnl hkq hp2
          go_wp2_with (go_at_call 18; refine (lDotted_c _ _).mono ?_; rintro e w' ⟨rfl, rfl⟩)
          all_goals
            go_meet
            case rel => exact ⟨rfl, by rw [Hp2.out]; simp [*], rfl⟩
      case rest =>
        obtain ⟨rfl, rfl, rfl⟩ := hcut
        clear hx0 hal
        have hf5 := htk.free 5
        have hc5 := htk.cell5
        have hblt := htk.lt
        have hafter : Hid (afterB (ts.map Prod.fst) = dottedB bef) := by show _ = _; unfold afterB; rw [hbef]
        have hpth' := Lib.hid hpth
        have hgrow1 : Hid (∀ k2, (Value.slice A n c).ownBlock = some k2 → k2 < b) := by
          intro k2 hk2
          have := (hrow.1.lt k2 (by rw [Hn.out]; exact hk2)).2
          rw [Hb.out] at this
          exact this
        have hrowH := Lib.hid hrow
        have htk5 := htk.setPos (k : Int)
        have hcr5 := hcr.only htk ((Only.refl b wc).setCell 5 (.int .i64 (k : Int)))
        have hbx5 := hbx.setCell (p := ⟨b, 5, none⟩) (Nat.le_refl _) (.int .i64 (k : Int))
        clear hpth hbef hrow hrow2 hcr hbx
        obtain ⟨W5, hW5⟩ : ∃ W5, wc.setCell ⟨b, 5, none⟩ (.int .i64 (k : Int)) = W5 := ⟨_, rfl⟩
        rw [hW5] at htk5 hcr5 hbx5
        have htok := Lib.hid (lToken_c s k b _ pth (dottedB bef) W5 (by omega) htk5 hk)
        have HW5 := Lib.hid hW5
        clear hW5
        go_wp2_with (go_at_call 18; refine (lDotted_c _ _).mono ?_; rintro e w' ⟨rfl, rfl⟩)
        rw [HW5.out]
        refine htok.out.mono ?_
        intro e w' hp
        have hgt := fun r h => tokOf_gt (r := r) hk (h : tokOf s k pth (dottedB bef) = some r)
        cases hto : tokOf s k pth (dottedB bef) with
        | none =>
          have hbad : Hid (specLex s = none) := by show _ = _; rw [← hr.out]; exact lexFrom_tok hg.out (by rw [hpth'.out, hafter.out]; exact hto)
          rw [hto] at hp
          obtain ⟨⟨m, rfl⟩, hw2⟩ := hp
          have hb2 := hbx5.trans (hw2.below (Nat.le_refl _) (by have := htk5.lt; omega))
          clear hto hgt htok htk htk5 hcr5 hbx5 HW5 hf5 hc5
          go_wp2_with fail
          go_ret3
          exact lexPost_bad' hbad.out (hbw.trans (hb2.mono hwb)) Hn.out.symm (by have := hrowH.out.below (by rw [Hb.out]; exact hb2); rw [Hn.out] at this; exact this)
        | some r =>
          obtain ⟨hr1, hr2, hr3⟩ := hgt r hto
          rw [hto] at hp
          obtain ⟨rfl, ht2, hw2⟩ := hp
          obtain ⟨hc2own, A3, c3, rfl⟩ := hcr5
          have hcr2 : CmtRow w' w.heap.size (.slice A3 cs.length c3) cs := CmtRow.only ⟨hc2own, A3, c3, rfl⟩ htk5 hw2
          have hb2 := hbx5.trans (hw2.below (Nat.le_refl _) (by have := htk5.lt; omega))
          have hkr : k ≤ r.stop := by
            by_cases hke : k = s.size
            · rw [(hr1 hke).1]; exact Nat.le_refl _
            · exact Nat.le_of_lt (hr2 (by omega))
          have hto' := Lib.hid hto
          have Hr1 := Lib.hid hr1
          have Hr2 := Lib.hid hr2
          clear hto hr1 hr2 hgt htok htk htk5 hc2own hbx5 HW5 hf5 hc5 hblt
          have q0 : w'.cell? ⟨b, 0, none⟩ = some (.string r.kind) := ht2.cell0
          have q1 : w'.cell? ⟨b, 1, none⟩ = some (.string (s.extract fr k)) := ht2.cell1
          have q2 : w'.cell? ⟨b, 2, none⟩ = some (.string ⟨#[]⟩) := ht2.cell2
          have q3 : w'.cell? ⟨b, 3, none⟩ = some (.string (r.text.getD ⟨#[]⟩)) := ht2.cell3
          have q4 : w'.cell? ⟨b, 4, none⟩ = some (.int .i64 (r.base.getD 0)) := ht2.cell4
          have q5 : w'.cell? ⟨b, 5, none⟩ = some (.int .i64 k) := ht2.cell5
          have q6 : w'.cell? ⟨b, 6, none⟩ = some (.int .i64 0) := ht2.cell6
          have q7 : w'.cell? ⟨b, 7, none⟩ = some (.slice A3 cs.length c3) := ht2.cell7
          have z2 := ht2.free 2
          have z6 := ht2.free 6
          have hblt := ht2.lt
          have ht3 := (ht2.setRaw (s.extract k r.stop)).setStop (r.stop : Int)
          have ho3 : Only b w' ((w'.setCell ⟨b, 2, none⟩ (.string (s.extract k r.stop))).setCell ⟨b, 6, none⟩ (.int .i64 (r.stop : Int))) := ((Only.refl b w').setCell 2 _).setCell 6 _
          have hcr3 := hcr2.only ht2 ho3
          have hb3 := hb2.trans (ho3.below (Nat.le_refl _) (by omega))
          have hrow3 := hrowH.out.below (by rw [Hb.out]; exact hb3)
          rw [Hn.out] at hrow3
          have hrown := hrow3.1
          rw [Hn.out] at hrown
          obtain ⟨tx, htx⟩ : ∃ tx, r.text.getD ⟨#[]⟩ = tx := ⟨_, rfl⟩
          obtain ⟨bs, hbs⟩ : ∃ bs, r.base.getD 0 = bs := ⟨_, rfl⟩
          rw [htx] at q3
          rw [hbs] at q4
          have Htx := Lib.hid htx
          have Hbs := Lib.hid hbs
          clear htx hbs hcr2 hb2 hw2
          have hsz3 : ((w'.setCell ⟨b, 2, none⟩ (.string (s.extract k r.stop))).setCell ⟨b, 6, none⟩ (.int .i64 (r.stop : Int))).heap.size = w'.heap.size := by simp [World.setCell]
          go_wp2_with (at_builtin; refine wpList_append_lies _ rfl (.tmp 99) (.tmp 101) 25 rfl w.heap.size 31 it (.agg #[.string ⟨#[]⟩, .string ⟨#[]⟩, .string ⟨#[]⟩, .string ⟨#[]⟩, .int .i64 0, .int .i64 0, .int .i64 0, .slice none 0 0]) 8 112 Tryz.underlying25 hit htz0 htz1 htz2 rfl (by decide) (.slice A n c) n (ts.flatMap tokCells) rfl (hrown.alloc _) ⟨w'.heap.size, 0, none⟩ 1 1 [.string r.kind, .string (s.extract fr k), .string (s.extract k r.stop), .string tx, .int .i64 bs, .int .i64 k, .int .i64 r.stop, .slice A3 cs.length c3] rfl rfl (by intro q u h; have h9 := cells_new ((w'.setCell ⟨b, 2, none⟩ (.string (s.extract k r.stop))).setCell ⟨b, 6, none⟩ (.int .i64 (r.stop : Int))) #[.string r.kind, .string (s.extract fr k), .string (s.extract k r.stop), .string tx, .int .i64 bs, .int .i64 k, .int .i64 r.stop, .slice A3 cs.length c3] 31 q u h; rw [hsz3] at h9; exact h9) (by intro u hu; simp at hu; rcases hu with rfl | rfl | rfl | rfl | rfl | rfl | rfl | rfl <;> rfl) (by omega) (by unfold maxLen; omega) (by omega) (by simp [World.setCell]; omega) _ rfl ?_; intro g cap w1 hown hgrow hat hlt; have ht4 := grown_tok2 ht3 hgrow (fun h => by have := hgrow1.out b h; omega); have p0 : w1.cell? ⟨b, 0, none⟩ = some (.string r.kind) := ht4.cell0)
          all_goals
            have hrow4 := tok_push (t := mkTok s (cs, fr, k) r) (hrow3.below ((Below.refl _ _).alloc (Nat.le_refl _) _)) (hcr3.below ((Below.refl _ _).alloc (Nat.le_refl _) _)) (by rw [Hn.out]) (by rw [← Htx.out, ← Hbs.out]; rfl) hown hgrow
            have hb4 : Below w.heap.size w w1 := ((hbw.trans (hb3.mono hwb)).alloc (by rw [hsz3]; omega) _).grown hgrow (by simp [World.setCell]; omega) (fun k2 hk2 => (hrown.lt k2 hk2).1)
            clear ht2 ht3 ho3 hcr3 hb3 hrow3 hrown hown hgrow hat hlt ht4 hrowH q0 q1 q2 q3 q4 q5 q6 q7 z2 z6 hgrow1 hblt hbw
          · rename_i heb
            have he : eofB r.kind = true := heb
            have hok : Hid (specLex s = some (ts.map Prod.fst ++ [mkTok s (cs, fr, k) r])) := by show _ = _; rw [← hr.out]; exact lexFrom_eof hg.out (by rw [hpth'.out, hafter.out]; exact hto'.out) he
            clear he
            go_ret3
            exact lexPost_good hok.out hb4 (by rw [List.length_append, Hn.out]; rfl) hrow4 (by rw [List.map_append]; rfl)
          · rename_i heb
            have he : eofB r.kind = false := heb
            have hgo := Lib.hid (lexFrom_go (f := f) hg.out (by rw [hpth'.out, hafter.out]; exact hto'.out) he)
            have hir : i + 1 ≤ r.stop := by
              by_cases hke : k = s.size
              · have := (Hr1.out hke).2; rw [he] at this; cases this
              · have := Hr2.out (by omega); omega
            clear he
            go_roundg f
            case measure => omega
            case rel =>
              refine ⟨r.stop, ts ++ [(mkTok s (cs, fr, k) r, .slice A3 cs.length c3)], some ⟨g, 0, none⟩, cap, ?_, rfl, hr3, ?_, by omega, hrow4, hb4, ?_⟩
              · rw [List.length_append, Hn.out]; rfl
              · rw [List.length_append, Hn.out]; simp; omega
              · show _ = _; rw [← hr.out, hgo.out, List.map_append]; rfl
end Go.Proofs.YtmkkeacbabmaeaaGreatDoor
namespace Go.Proofs.YtmkkeacbabmaeaaGreatDoor
open Go.RowKit Go.PlainAid

theorem mrow_cells {w : World} {B g n cap : Nat} {cs : List CmtD} (h : MRow w B (.slice (some ⟨g, 0, none⟩) n cap) cs) (j : Nat) (hj : j < cs.length) :
    w.cell? ⟨g, j * 4, none⟩ = some (.string (cs[j]'hj).space) ∧ w.cell? ⟨g, j * 4 + 1, none⟩ = some (.string (cs[j]'hj).raw) ∧ w.cell? ⟨g, j * 4 + 2, none⟩ = some (.int .i64 (cs[j]'hj).pos) ∧ w.cell? ⟨g, j * 4 + 3, none⟩ = some (.int .i64 (cs[j]'hj).stop) := by
  have aux : ∀ (l : List CmtD) (k : Nat) (hk : k < l.length) (q : Nat), q < 4 → (l.flatMap cmtCells)[k * 4 + q]? = (cmtCells (l[k]'hk))[q]? := by
    intro l
    induction l with
    | nil => intro k hk; cases hk
    | cons a l ih =>
      intro k hk q hq
      cases k with
      | zero =>
        rw [List.flatMap_cons, List.getElem?_append_left (by simp [cmtCells]; omega)]
        simp
      | succ k =>
        rw [List.flatMap_cons, List.getElem?_append_right (by simp [cmtCells]; omega)]
        have : (k + 1) * 4 + q - (cmtCells a).length = k * 4 + q := by simp [cmtCells]; omega
        rw [this]
        exact ih k (by simpa using hk) q hq
  have key : ∀ q u, q < 4 → (cmtCells (cs[j]'hj))[q]? = some u → w.cell? ⟨g, j * 4 + q, none⟩ = some u := by
    intro q u hq hu
    have hc := h.1.cells (g := g) rfl (j * 4 + q) u ((aux cs j hj q hq).trans hu)
    rwa [add_off] at hc
  exact ⟨key 0 _ (by omega) rfl, key 1 _ (by omega) rfl, key 2 _ (by omega) rfl, key 3 _ (by omega) rfl⟩
theorem grown_tok22 {w w1 : World} {o1 o2 : Obj} {b : Nat} {x : TokS} {row : Option Nat} (ht : TokAt w b x) (hg : ((w.alloc o1).alloc o2).grownBy w1 row) (hne : row ≠ some b) : TokAt w1 b x := by
  have hl := ht.lt
  refine ht.kept ?_
  rw [hg.block b (by simp; omega) (fun h => hne h.symm)]
  exact (RowKit.Below.heap_alloc (w.alloc o1) o2 b (by simp; omega)).trans (RowKit.Below.heap_alloc w o1 b hl)
theorem tok_fill {w : World} {b : Nat} {x : TokS} (h : TokAt w b x) (y : TokS) : TokAt ((((((((w.setCell ⟨b, 0, none⟩ (.string y.kind)).setCell ⟨b, 1, none⟩ (.string y.space)).setCell ⟨b, 2, none⟩ (.string y.raw)).setCell ⟨b, 3, none⟩ (.string y.text)).setCell ⟨b, 4, none⟩ (.int .i64 y.base)).setCell ⟨b, 5, none⟩ (.int .i64 y.pos)).setCell ⟨b, 6, none⟩ (.int .i64 y.stop)).setCell ⟨b, 7, none⟩ (y.cm)) b y := by
  have h0 : (w.setCell ⟨b, 0, none⟩ (.string y.kind)).heap[b]? = some (.cells #[.string y.kind, .string x.space, .string x.raw, .string x.text, .int .i64 x.base, .int .i64 x.pos, .int .i64 x.stop, x.cm] 31 (0, 0)) := setCell_block h
  have h1 : ((w.setCell ⟨b, 0, none⟩ (.string y.kind)).setCell ⟨b, 1, none⟩ (.string y.space)).heap[b]? = some (.cells #[.string y.kind, .string y.space, .string x.raw, .string x.text, .int .i64 x.base, .int .i64 x.pos, .int .i64 x.stop, x.cm] 31 (0, 0)) := setCell_block h0
  have h2 : (((w.setCell ⟨b, 0, none⟩ (.string y.kind)).setCell ⟨b, 1, none⟩ (.string y.space)).setCell ⟨b, 2, none⟩ (.string y.raw)).heap[b]? = some (.cells #[.string y.kind, .string y.space, .string y.raw, .string x.text, .int .i64 x.base, .int .i64 x.pos, .int .i64 x.stop, x.cm] 31 (0, 0)) := setCell_block h1
  have h3 : ((((w.setCell ⟨b, 0, none⟩ (.string y.kind)).setCell ⟨b, 1, none⟩ (.string y.space)).setCell ⟨b, 2, none⟩ (.string y.raw)).setCell ⟨b, 3, none⟩ (.string y.text)).heap[b]? = some (.cells #[.string y.kind, .string y.space, .string y.raw, .string y.text, .int .i64 x.base, .int .i64 x.pos, .int .i64 x.stop, x.cm] 31 (0, 0)) := setCell_block h2
  have h4 : (((((w.setCell ⟨b, 0, none⟩ (.string y.kind)).setCell ⟨b, 1, none⟩ (.string y.space)).setCell ⟨b, 2, none⟩ (.string y.raw)).setCell ⟨b, 3, none⟩ (.string y.text)).setCell ⟨b, 4, none⟩ (.int .i64 y.base)).heap[b]? = some (.cells #[.string y.kind, .string y.space, .string y.raw, .string y.text, .int .i64 y.base, .int .i64 x.pos, .int .i64 x.stop, x.cm] 31 (0, 0)) := setCell_block h3
  have h5 : ((((((w.setCell ⟨b, 0, none⟩ (.string y.kind)).setCell ⟨b, 1, none⟩ (.string y.space)).setCell ⟨b, 2, none⟩ (.string y.raw)).setCell ⟨b, 3, none⟩ (.string y.text)).setCell ⟨b, 4, none⟩ (.int .i64 y.base)).setCell ⟨b, 5, none⟩ (.int .i64 y.pos)).heap[b]? = some (.cells #[.string y.kind, .string y.space, .string y.raw, .string y.text, .int .i64 y.base, .int .i64 y.pos, .int .i64 x.stop, x.cm] 31 (0, 0)) := setCell_block h4
  have h6 : (((((((w.setCell ⟨b, 0, none⟩ (.string y.kind)).setCell ⟨b, 1, none⟩ (.string y.space)).setCell ⟨b, 2, none⟩ (.string y.raw)).setCell ⟨b, 3, none⟩ (.string y.text)).setCell ⟨b, 4, none⟩ (.int .i64 y.base)).setCell ⟨b, 5, none⟩ (.int .i64 y.pos)).setCell ⟨b, 6, none⟩ (.int .i64 y.stop)).heap[b]? = some (.cells #[.string y.kind, .string y.space, .string y.raw, .string y.text, .int .i64 y.base, .int .i64 y.pos, .int .i64 y.stop, x.cm] 31 (0, 0)) := setCell_block h5
  have h7 : ((((((((w.setCell ⟨b, 0, none⟩ (.string y.kind)).setCell ⟨b, 1, none⟩ (.string y.space)).setCell ⟨b, 2, none⟩ (.string y.raw)).setCell ⟨b, 3, none⟩ (.string y.text)).setCell ⟨b, 4, none⟩ (.int .i64 y.base)).setCell ⟨b, 5, none⟩ (.int .i64 y.pos)).setCell ⟨b, 6, none⟩ (.int .i64 y.stop)).setCell ⟨b, 7, none⟩ (y.cm)).heap[b]? = some (.cells #[.string y.kind, .string y.space, .string y.raw, .string y.text, .int .i64 y.base, .int .i64 y.pos, .int .i64 y.stop, y.cm] 31 (0, 0)) := setCell_block h6
  exact h7
/-- A token, without its comments' row. -/
def tokS (kind space raw text : ByteArray) (base pos stop : Int) (cm : Value) : TokS := ⟨kind, space, raw, text, base, pos, stop, cm⟩

set_option maxHeartbeats 4000000 in
set_option maxRecDepth 100000 in
theorem tokenOf_c (kind space raw text : ByteArray) (base pos stop : Int) (v : Value) (cs : List CmtD) (B : Nat) (w : World) (hr : MRow w B v cs) (hB : B ≤ w.heap.size) (hcs : cs.length ≤ 4096) :
    Calls Tryz.prog 15 #[.agg #[.string kind, v, .string space, .string raw, .string text, .int .i64 base, .int .i64 pos, .int .i64 stop]] w fun e w' =>
      ∃ cv, e = .returned (.agg #[.string kind, .string space, .string raw, .string text, .int .i64 base, .int .i64 pos, .int .i64 stop, cv]) ∧ CmtRow w' w.heap.size cv cs ∧ RowKit.Below w.heap.size w w' := by
  obtain ⟨ic, hic, hcz0, hcz1, hcz2⟩ := info_parts info_cmt
  obtain ⟨hown, A, cap, rfl⟩ := hr
  have HR := Lib.hid hown
  clear hown
  go_enter Tryz.func15, Tryz.ntmps15
  go_upto_region 2 with fail
  obtain ⟨n, hn⟩ : ∃ n, w.heap.size = n := ⟨_, rfl⟩
  have hB' : B ≤ n := by omega
  have hchain : ∀ o1 o2 o3 : Obj, RowKit.Below w.heap.size w (((w.alloc o1).alloc o2).alloc o3) := fun o1 o2 o3 => (((RowKit.Below.refl w.heap.size w).alloc (Nat.le_refl _) o1).alloc (by simp) o2).alloc (by simp; omega) o3
  have ht2 : ∀ (o1 o2 : Obj), TokAt (((w.alloc o1).alloc o2).alloc (.cells #[.string kind, .string space, .string raw, .string text, .int .i64 base, .int .i64 pos, .int .i64 stop, .slice none 0 0] 31)) (w.heap.size + 1 + 1) (tokS kind space raw text base pos stop (.slice none 0 0)) := fun o1 o2 => by
    have e := heap_alloc_new ((w.alloc o1).alloc o2) (.cells #[.string kind, .string space, .string raw, .string text, .int .i64 base, .int .i64 pos, .int .i64 stop, .slice none 0 0] 31)
    have hz : ((w.alloc o1).alloc o2).heap.size = w.heap.size + 1 + 1 := by simp
    rw [hz] at e
    exact e
  have ht1 : ∀ (o1 o3 : Obj), TokAt (((w.alloc o1).alloc (.cells #[.string ⟨#[]⟩, .string ⟨#[]⟩, .string ⟨#[]⟩, .string ⟨#[]⟩, .int .i64 0, .int .i64 0, .int .i64 0, .slice none 0 0] 31)).alloc o3) (w.heap.size + 1) (tokS ⟨#[]⟩ ⟨#[]⟩ ⟨#[]⟩ ⟨#[]⟩ 0 0 0 (.slice none 0 0)) := fun o1 o3 => by
    have e := heap_alloc_new (w.alloc o1) (.cells #[.string ⟨#[]⟩, .string ⟨#[]⟩, .string ⟨#[]⟩, .string ⟨#[]⟩, .int .i64 0, .int .i64 0, .int .i64 0, .slice none 0 0] 31)
    have e2 := RowKit.Below.heap_alloc ((w.alloc o1).alloc (.cells #[.string ⟨#[]⟩, .string ⟨#[]⟩, .string ⟨#[]⟩, .string ⟨#[]⟩, .int .i64 0, .int .i64 0, .int .i64 0, .slice none 0 0] 31)) o3 (w.heap.size + 1) (by simp)
    have hz : (w.alloc o1).heap.size = w.heap.size + 1 := by simp
    rw [hz] at e
    exact e2.trans e
  have hw3 := hchain (.cells #[.string kind, .slice A cs.length cap, .string space, .string raw, .string text, .int .i64 base, .int .i64 pos, .int .i64 stop] 45) (.cells #[.string ⟨#[]⟩, .string ⟨#[]⟩, .string ⟨#[]⟩, .string ⟨#[]⟩, .int .i64 0, .int .i64 0, .int .i64 0, .slice none 0 0] 31) (.cells #[.string kind, .string space, .string raw, .string text, .int .i64 base, .int .i64 pos, .int .i64 stop, .slice none 0 0] 31)
  have ht2' := ht2 (.cells #[.string kind, .slice A cs.length cap, .string space, .string raw, .string text, .int .i64 base, .int .i64 pos, .int .i64 stop] 45) (.cells #[.string ⟨#[]⟩, .string ⟨#[]⟩, .string ⟨#[]⟩, .string ⟨#[]⟩, .int .i64 0, .int .i64 0, .int .i64 0, .slice none 0 0] 31)
  have ht1' := ht1 (.cells #[.string kind, .slice A cs.length cap, .string space, .string raw, .string text, .int .i64 base, .int .i64 pos, .int .i64 stop] 45) (.cells #[.string kind, .string space, .string raw, .string text, .int .i64 base, .int .i64 pos, .int .i64 stop, .slice none 0 0] 31)
  have hrow3 := own_below' HR.out hw3
  go_wp2_with fail
  obtain ⟨W3, hW3⟩ : ∃ W3, (((w.alloc (.cells #[.string kind, .slice A cs.length cap, .string space, .string raw, .string text, .int .i64 base, .int .i64 pos, .int .i64 stop] 45)).alloc (.cells #[.string ⟨#[]⟩, .string ⟨#[]⟩, .string ⟨#[]⟩, .string ⟨#[]⟩, .int .i64 0, .int .i64 0, .int .i64 0, .slice none 0 0] 31)).alloc (.cells #[.string kind, .string space, .string raw, .string text, .int .i64 base, .int .i64 pos, .int .i64 stop, .slice none 0 0] 31)) = W3 := ⟨_, rfl⟩
  rw [hW3] at hw3 ht2' ht1' hrow3 ⊢
  rw [hn] at ht1' ht2' hw3 ⊢
  clear hW3 hchain ht1 ht2
  go_loopw [24] (fun v24 wr => ∃ (j : Nat) (cv : Value), v24 = .int .i64 j ∧ j ≤ cs.length ∧ TokAt wr (n + 1 + 1) (tokS kind space raw text base pos stop cv) ∧ TokAt wr (n + 1) (tokS ⟨#[]⟩ ⟨#[]⟩ ⟨#[]⟩ ⟨#[]⟩ 0 0 0 (.slice none 0 0)) ∧ CmtRow wr n cv (cs.take j) ∧ wr.ownsRow B 68 4 (.slice A cs.length cap) cs.length (cs.flatMap cmtCells) ∧ RowKit.Below n w wr) (fun v24 _ => cs.length - (intOf v24).toNat)
  case atStart => exact ⟨0, .slice none 0 0, rfl, by omega, ht2', ht1', by rw [List.take_zero]; exact CmtRow.nil _ _, hrow3, hw3⟩
  case round =>
    obtain ⟨j, cv, rfl, hj, hx2, hx1, hcr, hrow, hbel⟩ := hrel
    by_cases hlt : j < cs.length
    · rcases hrow.2 with ⟨hv, h0⟩ | ⟨g, cp, cur, hv, hrest⟩
      · omega
      · clear hrest cur
        simp at hv
        obtain ⟨rfl, rfl⟩ := hv
        have hm : MRow wr B (.slice (some ⟨g, 0, none⟩) cs.length cap) cs := ⟨hrow, _, _, rfl⟩
        obtain ⟨m0, m1, m2, m3⟩ := mrow_cells hm j hlt
        have htk : cs.take (j + 1) = cs.take j ++ [cs[j]'hlt] := List.take_succ_eq_append_getElem hlt
        have hlen : (cs.take j).length = j := by rw [List.length_take]; omega
        obtain ⟨c, hc⟩ : ∃ c, cs[j]'hlt = c := ⟨_, rfl⟩
        rw [hc] at m0 m1 m2 m3 htk
        obtain ⟨hcrow, A2, ca, rfl⟩ := hcr
        rw [hlen] at hcrow hx2
        have hc7 : wr.cell? ⟨n + 1 + 1, 7, none⟩ = some (.slice A2 j ca) := hx2.cell7
        have hf7 := hx2.free 7
        have hx2lt := hx2.lt
        have hx1lt := hx1.lt
        have Hx2 := Lib.hid hx2
        have Hx1 := Lib.hid hx1
        have Hrow := Lib.hid hrow
        have Hbel := Lib.hid hbel
        have Htk := Lib.hid htk
        have Hcrow := Lib.hid hcrow
        clear hx2 hx1 hrow hbel htk hcrow hm hc hrow3 ht1' ht2' hw3
        go_wp2_with (at_builtin; refine wpList_append_lies _ rfl (.tmp 29) (.tmp 39) 29 rfl n 50 ic (.agg #[.string ⟨#[]⟩, .string ⟨#[]⟩, .int .i64 0, .int .i64 0]) 4 48 Tryz.underlying29 hic hcz0 hcz1 hcz2 rfl (by decide) (.slice A2 j ca) j ((cs.take j).flatMap cmtCells) rfl ((Hcrow.out.alloc (.cells #[.string c.space, .string c.raw, .int .i64 c.pos, .int .i64 c.stop] 68)).alloc (.cells #[.string c.space, .string c.raw, .int .i64 c.pos, .int .i64 c.stop] 50)) ⟨wr.heap.size + 1, 0, none⟩ 1 1 (cmtCells c) rfl rfl (fun q u h => by have k := cells_new (wr.alloc (.cells #[.string c.space, .string c.raw, .int .i64 c.pos, .int .i64 c.stop] 68)) #[.string c.space, .string c.raw, .int .i64 c.pos, .int .i64 c.stop] 50 q u h; simpa using k) (by intro u hu; simp [cmtCells] at hu; rcases hu with rfl | rfl | rfl | rfl <;> rfl) (by omega) (by unfold maxLen; omega) (by omega) (by simp; omega) _ rfl ?_; intro g2 cap2 w1 hgown hgrow hat hgl; have q2 := grown_tok22 Hx2.out hgrow (own_tag_ne Hcrow.out Hx2.out (by decide)); have q7 := q2.cell7; have z7 := q2.free 7)
        have q1 := grown_tok22 Hx1.out hgrow (own_tag_ne Hcrow.out Hx1.out (by decide))
        have hcr1 : CmtRow w1 n (.slice (some ⟨g2, 0, none⟩) (j + 1) cap2) (cs.take (j + 1)) := by
          rw [Htk.out]
          exact cmt_push (by rw [hlen]) rfl hgown
        have hrow1 := ((Hrow.out.alloc (.cells #[.string c.space, .string c.raw, .int .i64 c.pos, .int .i64 c.stop] 68)).alloc (.cells #[.string c.space, .string c.raw, .int .i64 c.pos, .int .i64 c.stop] 50)).kept hgrow (own_tags ((Hrow.out.alloc (.cells #[.string c.space, .string c.raw, .int .i64 c.pos, .int .i64 c.stop] 68)).alloc (.cells #[.string c.space, .string c.raw, .int .i64 c.pos, .int .i64 c.stop] 50)) ((Hcrow.out.alloc (.cells #[.string c.space, .string c.raw, .int .i64 c.pos, .int .i64 c.stop] 68)).alloc (.cells #[.string c.space, .string c.raw, .int .i64 c.pos, .int .i64 c.stop] 50)) (by decide))
        have hbel1 := (((Hbel.out.alloc (by omega) (.cells #[.string c.space, .string c.raw, .int .i64 c.pos, .int .i64 c.stop] 68)).alloc (by simp; omega) (.cells #[.string c.space, .string c.raw, .int .i64 c.pos, .int .i64 c.stop] 50)).grown hgrow (by simp; omega) (fun k hk => (Hcrow.out.lt k hk).1))
        refine ⟨⟨j + 1, .slice (some ⟨g2, 0, none⟩) (j + 1) cap2, rfl, hlt, q2.setCm _, q1.kept (RowKit.Below.heap_setCell _ _ _ _ (by show n + 1 ≠ n + 1 + 1; omega)), hcr1.only q2 ((Only.refl (n + 1 + 1) w1).setCell 7 _), own_set_other hrow1 (own_tag_ne hrow1 q2 (by decide)), hbel1.setCell (p := ⟨n + 1 + 1, 7, none⟩) (by show n ≤ n + 1 + 1; omega) _⟩, ?_⟩
        simp [intOf]
        omega
    · have hjl : j = cs.length := by omega
      have hcr' : CmtRow wr n cv cs := by rw [hjl, List.take_of_length_le (Nat.le_refl _)] at hcr; exact hcr
      obtain ⟨hcr1, A2, ca, rfl⟩ := hcr'
      have hcr' : CmtRow wr n (.slice A2 cs.length ca) cs := ⟨hcr1, A2, ca, rfl⟩
      have d0 : wr.cell? ⟨n + 1 + 1, 0, none⟩ = some (.string kind) := hx2.cell0
      have d1 : wr.cell? ⟨n + 1 + 1, 1, none⟩ = some (.string space) := hx2.cell1
      have d2 : wr.cell? ⟨n + 1 + 1, 2, none⟩ = some (.string raw) := hx2.cell2
      have d3 : wr.cell? ⟨n + 1 + 1, 3, none⟩ = some (.string text) := hx2.cell3
      have d4 : wr.cell? ⟨n + 1 + 1, 4, none⟩ = some (.int .i64 base) := hx2.cell4
      have d5 : wr.cell? ⟨n + 1 + 1, 5, none⟩ = some (.int .i64 pos) := hx2.cell5
      have d6 : wr.cell? ⟨n + 1 + 1, 6, none⟩ = some (.int .i64 stop) := hx2.cell6
      have d7 : wr.cell? ⟨n + 1 + 1, 7, none⟩ = some (.slice A2 cs.length ca) := hx2.cell7
      have e0 : wr.cell? ⟨n + 1, 0, none⟩ = some (.string ⟨#[]⟩) := hx1.cell0
      have e1 : wr.cell? ⟨n + 1, 1, none⟩ = some (.string ⟨#[]⟩) := hx1.cell1
      have e2 : wr.cell? ⟨n + 1, 2, none⟩ = some (.string ⟨#[]⟩) := hx1.cell2
      have e3 : wr.cell? ⟨n + 1, 3, none⟩ = some (.string ⟨#[]⟩) := hx1.cell3
      have e4 : wr.cell? ⟨n + 1, 4, none⟩ = some (.int .i64 0) := hx1.cell4
      have e5 : wr.cell? ⟨n + 1, 5, none⟩ = some (.int .i64 0) := hx1.cell5
      have e6 : wr.cell? ⟨n + 1, 6, none⟩ = some (.int .i64 0) := hx1.cell6
      have e7 : wr.cell? ⟨n + 1, 7, none⟩ = some (.slice none 0 0) := hx1.cell7
      have f0 := hx1.free 0
      have f1 := hx1.free 1
      have f2 := hx1.free 2
      have f3 := hx1.free 3
      have f4 := hx1.free 4
      have f5 := hx1.free 5
      have f6 := hx1.free 6
      have f7 := hx1.free 7
      have Hx1 := Lib.hid hx1
      have Hcr := Lib.hid hcr'
      have Hbel := Lib.hid hbel
      clear hx1 hx2 hcr hcr' hcr1 hbel hrow hrow3 ht1' ht2' hw3
      have hfill := tok_fill Hx1.out (tokS kind space raw text base pos stop (.slice A2 cs.length ca))
      have hfill2 : TokAt ((((((((wr.setCell ⟨n + 1, 0, none⟩ (.string kind)).setCell ⟨n + 1, 1, none⟩ (.string space)).setCell ⟨n + 1, 2, none⟩ (.string raw)).setCell ⟨n + 1, 3, none⟩ (.string text)).setCell ⟨n + 1, 4, none⟩ (.int .i64 base)).setCell ⟨n + 1, 5, none⟩ (.int .i64 pos)).setCell ⟨n + 1, 6, none⟩ (.int .i64 stop)).setCell ⟨n + 1, 7, none⟩ (.slice A2 cs.length ca)) (n + 1) (tokS kind space raw text base pos stop (.slice A2 cs.length ca)) := hfill
      have hrow9 : CmtRow ((((((((wr.setCell ⟨n + 1, 0, none⟩ (.string kind)).setCell ⟨n + 1, 1, none⟩ (.string space)).setCell ⟨n + 1, 2, none⟩ (.string raw)).setCell ⟨n + 1, 3, none⟩ (.string text)).setCell ⟨n + 1, 4, none⟩ (.int .i64 base)).setCell ⟨n + 1, 5, none⟩ (.int .i64 pos)).setCell ⟨n + 1, 6, none⟩ (.int .i64 stop)).setCell ⟨n + 1, 7, none⟩ (.slice A2 cs.length ca)) n (.slice A2 cs.length ca) cs := Hcr.out.only Hx1.out (((((((((Only.refl (n + 1) wr).setCell 0 _).setCell 1 _).setCell 2 _).setCell 3 _).setCell 4 _).setCell 5 _).setCell 6 _).setCell 7 _)
      have hbel9 : RowKit.Below n w ((((((((wr.setCell ⟨n + 1, 0, none⟩ (.string kind)).setCell ⟨n + 1, 1, none⟩ (.string space)).setCell ⟨n + 1, 2, none⟩ (.string raw)).setCell ⟨n + 1, 3, none⟩ (.string text)).setCell ⟨n + 1, 4, none⟩ (.int .i64 base)).setCell ⟨n + 1, 5, none⟩ (.int .i64 pos)).setCell ⟨n + 1, 6, none⟩ (.int .i64 stop)).setCell ⟨n + 1, 7, none⟩ (.slice A2 cs.length ca)) := ((((((((Hbel.out).setCell (p := ⟨n + 1, 0, none⟩) (by show n ≤ n + 1; omega) _).setCell (p := ⟨n + 1, 1, none⟩) (by show n ≤ n + 1; omega) _).setCell (p := ⟨n + 1, 2, none⟩) (by show n ≤ n + 1; omega) _).setCell (p := ⟨n + 1, 3, none⟩) (by show n ≤ n + 1; omega) _).setCell (p := ⟨n + 1, 4, none⟩) (by show n ≤ n + 1; omega) _).setCell (p := ⟨n + 1, 5, none⟩) (by show n ≤ n + 1; omega) _).setCell (p := ⟨n + 1, 6, none⟩) (by show n ≤ n + 1; omega) _).setCell (p := ⟨n + 1, 7, none⟩) (by show n ≤ n + 1; omega) _
      have Hf := Lib.hid (And.intro hfill2 (And.intro hrow9 hbel9))
      clear hfill hfill2 hrow9 hbel9
      go_upto_region 7 with fail
      go_cut [] (fun wc => TokAt wc (n + 1) (tokS kind space raw text base pos stop (.slice A2 cs.length ca)) ∧ CmtRow wc n (.slice A2 cs.length ca) cs ∧ RowKit.Below n w wc)
      case first =>
        go_wp2_with fail
        go_meet
        case rel => exact Hf.out
      case rest =>
        obtain ⟨hz, hzr, hzb⟩ := hcut
        clear d0 d1 d2 d3 d4 d5 d6 d7 e0 e1 e2 e3 e4 e5 e6 e7 f0 f1 f2 f3 f4 f5 f6 f7
        have z0 : wc.cell? ⟨n + 1, 0, none⟩ = some (.string kind) := hz.cell0
        have z1 : wc.cell? ⟨n + 1, 1, none⟩ = some (.string space) := hz.cell1
        have z2 : wc.cell? ⟨n + 1, 2, none⟩ = some (.string raw) := hz.cell2
        have z3 : wc.cell? ⟨n + 1, 3, none⟩ = some (.string text) := hz.cell3
        have z4 : wc.cell? ⟨n + 1, 4, none⟩ = some (.int .i64 base) := hz.cell4
        have z5 : wc.cell? ⟨n + 1, 5, none⟩ = some (.int .i64 pos) := hz.cell5
        have z6 : wc.cell? ⟨n + 1, 6, none⟩ = some (.int .i64 stop) := hz.cell6
        have z7 : wc.cell? ⟨n + 1, 7, none⟩ = some (.slice A2 cs.length ca) := hz.cell7
        have HZ := Lib.hid (And.intro hzr hzb)
        clear hz hzr hzb
        go_wp2_with fail
        refine bodyPost_ret (v := .agg #[.string kind, .string space, .string raw, .string text, .int .i64 base, .int .i64 pos, .int .i64 stop, .slice A2 cs.length ca]) ?_ rfl ?_
        · simp [results, Tryz.results15, go_sem, z0, z1, z2, z3, z4, z5, z6, z7]
        · rw [hn]
          exact ⟨_, rfl, HZ.out.1, HZ.out.2⟩
end Go.Proofs.YtmkkeacbabmaeaaGreatDoor
namespace Go.Proofs.YtmkkeacbabmaeaaGreatDoor
open Go.RowKit Go.PlainAid

theorem own_kp {w w' : World} {B e z n : Nat} {v : Value} {xs : List Value} (h : w.ownsRow B e z v n xs) (hk : Kp w w') (h1 : e ≠ 47) (h2 : e ≠ 56) : w'.ownsRow B e z v n xs := by
  refine ⟨h.1, ?_⟩
  rcases h.2 with k | ⟨g, cap, cur, hv, hg, hb, r⟩
  · exact Or.inl k
  · refine Or.inr ⟨g, cap, cur, hv, hg, ?_, r⟩
    rw [hk.block g (Array.getElem?_eq_some_iff.1 hb).1 (by rw [hb]; intro C fr q; injection q with q; injection q with q1 q2 q3; exact h1 q2) (by rw [hb]; intro C fr q; injection q with q; injection q with q1 q2 q3; exact h2 q2)]
    exact hb
theorem CmtRow.kp {w w' : World} {B : Nat} {v : Value} {cs : List CmtD} (h : CmtRow w B v cs) (hk : Kp w w') : CmtRow w' B v cs := ⟨own_kp h.1 hk (by decide) (by decide), h.2⟩
theorem TokRow.kp {w w' : World} {B : Nat} {v : Value} {ts : List (TokD × Value)} (h : TokRow w B v ts) (hk : Kp w w') : TokRow w' B v ts := ⟨own_kp h.1 hk (by decide) (by decide), fun p hp => (h.2 p hp).kp hk⟩

theorem gap_len {s : ByteArray} : ∀ (f i : Nat) (cs : List CmtD) (g : List CmtD × Nat × Nat), i ≤ s.size → gapFrom s f i cs = some g → g.1.length + i ≤ cs.length + g.2.2 ∧ g.2.2 ≤ s.size ∧ i ≤ g.2.2
  | 0, _, _, _, _, h => by cases h
  | f + 1, i, cs, g, hi, h => by
    have hb1 := blanksEnd_ge s i
    have hb2 := blanksEnd_le s i hi
    rw [gapFrom] at h
    split at h
    · cases h
    · rename_i e he
      have hc := commentEnd_le hb2 he
      split at h
      · rename_i hee
        cases h
        refine ⟨?_, ?_, ?_⟩
        · show cs.length + i ≤ cs.length + e
          omega
        · show e ≤ s.size
          omega
        · show i ≤ e
          omega
      · rename_i hne
        have := gap_len f e _ g hc.2 h
        simp at this
        omega
theorem isDot_eq (k : ByteArray) : (k.toList == [46]) = isDot k := by unfold isDot; rw [ByteArray.toList_eq]
theorem lastKind_app (l : List TokD) (t : TokD) : lastKind (l ++ [t]) = t.kind := by unfold lastKind; simp
theorem path_next (l : List TokD) (t : TokD) : pathB (l ++ [t]) = (!pathB l && isDot t.kind && dottedB (lastKind l)) := by
  have hd : dottedB (lastKind l) = true → pathB l = false := by
    intro h
    cases hp : pathB l with
    | false => rfl
    | true =>
      unfold pathB at hp
      simp only [Bool.and_eq_true] at hp
      have e : (lastKind l).toList = [46] := eq_of_beq hp.1.1
      unfold dottedB at h
      rw [e] at h
      exact absurd h (by decide)
  have hk : 0 < l.length → kindAt (l ++ [t]) ((l ++ [t]).length - 2) = lastKind l := by
    intro h
    unfold kindAt lastKind
    rw [List.getLast?_eq_getElem?, List.getElem?_append_left (by simp; omega)]
    have : (l ++ [t]).length - 2 = l.length - 1 := by simp
    rw [this]
  have e1 : pathB (l ++ [t]) = (isDot t.kind && dottedB (lastKind l)) := by
    unfold pathB
    rw [lastKind_app, isDot_eq]
    by_cases h : 0 < l.length
    · rw [hk h, decide_eq_true (show 1 < (l ++ [t]).length by simp; omega)]
      simp
    · have hl : l = [] := by cases l with
        | nil => rfl
        | cons a r => exact absurd (by simp) h
      subst hl
      have h1 : decide (1 < (([] : List TokD) ++ [t]).length) = false := by simp
      rw [h1]
      have : dottedB (lastKind []) = false := by decide +kernel
      rw [this]
      simp
  rw [e1]
  cases hq : dottedB (lastKind l) with
  | false => simp
  | true => rw [hd hq]; simp
theorem grown_lx1 {w w1 : World} {o : Obj} {b f : Nat} {x : LxS} {row : Option Nat} (ht : LxAt w b f x) (hg : (w.alloc o).grownBy w1 row) (hne : row ≠ some b) : LxAt w1 b f x := by
  refine ht.kept ?_
  rw [hg.block b (by have := ht.lt; simp; omega) (fun h => hne h.symm)]
  exact Below.heap_alloc w o b ht.lt
theorem grown_file1 {w w1 : World} {o : Obj} {f : Nat} {s : ByteArray} {ln : Value} {row : Option Nat} (ht : FileAt w f s ln) (hg : (w.alloc o).grownBy w1 row) (hne : row ≠ some f) : FileAt w1 f s ln := by
  refine ht.kept ?_
  rw [hg.block f (by have := ht.lt; simp; omega) (fun h => hne h.symm)]
  exact Below.heap_alloc w o f ht.lt
/-- A new lexer. -/
def lxNew : LxS := ⟨⟨#[]⟩, .slice none 0 0, ⟨#[]⟩, ⟨#[]⟩, ⟨#[]⟩, 0, 0, 0, 0, ⟨#[]⟩, false⟩
set_option maxHeartbeats 1000000 in
set_option maxRecDepth 100000 in
theorem lexerOf_c (s : ByteArray) (w : World) :
    Calls Tryz.prog 12 #[.string s] w fun e w' => e = .returned (.pointer (some ⟨w.heap.size + 1, 0, none⟩)) ∧ FileAt w' w.heap.size s (.slice none 0 0) ∧ LxAt w' (w.heap.size + 1) w.heap.size lxNew ∧ RowKit.Below w.heap.size w w' := by
  go_enter Tryz.func12, Tryz.ntmps12
  go_wp2_with fail
  go_ret
  refine ⟨rfl, ?_, ?_, ?_⟩
  · exact (RowKit.Below.heap_alloc _ _ _ (by simp)).trans (heap_alloc_new w _)
  · have e := heap_alloc_new (w.alloc (.cells #[.string ⟨#[]⟩, .string s, .slice none 0 0] 56)) (.cells #[.pointer (some ⟨w.heap.size, 0, none⟩), .string ⟨#[]⟩, .slice none 0 0, .string ⟨#[]⟩, .string ⟨#[]⟩, .string ⟨#[]⟩, .int .i64 0, .int .i64 0, .int .i64 0, .int .i64 0, .string ⟨#[]⟩, .bool false] 47)
    have hz : (w.alloc (.cells #[.string ⟨#[]⟩, .string s, .slice none 0 0] 56)).heap.size = w.heap.size + 1 := by simp
    rw [hz] at e
    exact e
  · exact ((RowKit.Below.refl w.heap.size w).alloc (Nat.le_refl _) _).alloc (by simp) _
end Go.Proofs.YtmkkeacbabmaeaaGreatDoor
namespace Go.Proofs.YtmkkeacbabmaeaaGreatDoor
open Go.RowKit Go.PlainAid

set_option maxHeartbeats 12000000 in
set_option maxRecDepth 100000 in
theorem implLex_c (s : ByteArray) (w : World) (hT : TextOk s) (htab : Lib.TabBelow Tryz.prog w.heap.size w "internal/strconv.uint64pow10" .u64 Lib.pow10Tab) (hgv : ∀ W, RowKit.Below w.heap.size w W → W.cell? ⟨0, 0, none⟩ = some errVar) :
    Calls Tryz.prog 8 #[.string s] w (LexPost s w) := by
  obtain ⟨it, hit, htz0, htz1, htz2⟩ := info_parts info_tok
  have hs := hT.small
  have HT := Lib.hid hT
  have HG := Lib.hid hgv
  have Htab := Lib.hid htab
  clear hT hgv htab
  go_enter Tryz.func8, Tryz.ntmps8
  go_wp2_with fail
  refine (lexerOf_c s w).mono ?_
  rintro e w0 ⟨rfl, hf0, hl0, hb0⟩
  obtain ⟨f, hfe⟩ : ∃ f, w.heap.size = f := ⟨_, rfl⟩
  obtain ⟨b, hbe⟩ : ∃ b, f + 1 = b := ⟨_, rfl⟩
  have hwf : w.heap.size ≤ f := by omega
  have hwb : w.heap.size ≤ b := by omega
  have hne : f ≠ b := by omega
  rw [hfe] at hf0 hl0
  rw [hbe] at hl0
  rw [show w.heap.size + 1 = b by omega]
  clear hfe hbe
  have Hf0 := Lib.hid hf0
  have Hl0 := Lib.hid hl0
  have Hb0 := Lib.hid hb0
  clear hf0 hl0 hb0
  go_wp2_with fail
  go_loopg [2] (s.size + 2) (fun kq v2 wr => ∃ (i : Nat) (ts : List (TokD × Value)) (A : Option Addr) (c : Nat) (x : LxS), v2 = .slice A ts.length c ∧ i ≤ s.size ∧ ts.length ≤ i ∧ s.size + 2 ≤ i + kq ∧ LxAt wr b f x ∧ x.pos = i ∧ Hid (x.kind = lastKind (ts.map Prod.fst) ∧ x.dot = pathB (ts.map Prod.fst)) ∧ FileAt wr f s (.slice none 0 0) ∧ TokRow wr w.heap.size v2 ts ∧ RowKit.Below w.heap.size w wr ∧ Hid (lexFrom s kq i (ts.map Prod.fst) = specLex s))
  case atStart => exact ⟨0, [], none, 0, lxNew, rfl, by omega, by simp, by omega, Hl0.out, rfl, ⟨rfl, by decide +kernel⟩, Hf0.out, TokRow.nil _ _, Hb0.out, rfl⟩
  case round =>
    obtain ⟨i, ts, A, c, x, rfl, hi, hlen, hfu, hlx, hpos, hst, hfile, hrow, hbel, hr⟩ := hrel
    obtain ⟨fu, rfl⟩ : ∃ g, gk = g + 1 := ⟨gk - 1, by omega⟩
    have hBw := hbel.size
    have hE : Env s b f w.heap.size wr := ⟨hs, hfile, hne, hwf, hwb, hBw, fun W hW => Htab.out W (hbel.trans hW)⟩
    have Hnt := Lib.hid (NextToken_c s b f i w.heap.size x wr HT.out hE hlx hpos hi)
    have hkl : dottedB x.kind = afterB (ts.map Prod.fst) := by unfold afterB; rw [← hst.out.1]
    have hdt : x.dot = pathB (ts.map Prod.fst) := hst.out.2
    have Hkl := Lib.hid hkl
    have Hdt := Lib.hid hdt
    have Hst := Lib.hid hst.out.1
    obtain ⟨n, hn⟩ : ∃ n, ts.length = n := ⟨_, rfl⟩
    have Hlx := Lib.hid hlx
    have Hrow := Lib.hid hrow
    have Hbel := Lib.hid hbel
    have Hn := Lib.hid hn
    have hni : n ≤ i := by omega
    rw [hn]
    have Hfile := Lib.hid hfile
    clear hE hlx hrow hbel hkl hdt hst hfile hpos hn
    go_wp2_with fail
    refine Hnt.out.mono ?_
    rintro e w1 k
    unfold TokenPost at k
    cases hq : (gapFrom s (s.size + 1) i []).bind fun g => (tokOf s g.2.2 x.dot (dottedB x.kind)).map fun r => (g, r) with
    | none =>
      rw [hq] at k
      obtain ⟨v, p, rfl, herr, hlow⟩ := k
      have hbad : Hid (specLex s = none) := by
        show _ = _
        rw [← hr.out]
        cases hg : gapFrom s (s.size + 1) i [] with
        | none => exact lexFrom_gap hg
        | some g =>
          rw [hg] at hq
          refine lexFrom_tok hg ?_
          rw [← Hdt.out, ← Hkl.out]
          cases ht : tokOf s g.2.2 x.dot (dottedB x.kind) with
          | none => rfl
          | some r => simp [ht] at hq
      clear hq
      have hb1 := Hbel.out.trans hlow.below
      have hpl := Lib.hid (placeOf_c v p w1 herr (HG.out w1 hb1))
      have hrow1 := Lib.hid (Hrow.out.kp hlow.kp)
      have Hb1 := Lib.hid hb1
      clear hb1 herr hlow
      go_wp2_with fail
      refine hpl.out.mono ?_
      rintro e w2 ⟨rfl, hb2⟩
      have hrow2 := hrow1.out.below hb2
      have hb3 := Hb1.out.trans (hb2.mono Hb1.out.size)
      go_wp2_with fail
      go_ret3
      exact lexPost_bad' hbad.out hb3 Hn.out.symm (by rw [Hn.out] at hrow2; exact hrow2)
    | some q =>
      rw [hq] at k
      obtain ⟨⟨cs, fr, k0⟩, r⟩ := q
      obtain ⟨rfl, hO, v, hl, hmr⟩ := k
      have hgt : gapFrom s (s.size + 1) i [] = some (cs, fr, k0) ∧ tokOf s k0 x.dot (dottedB x.kind) = some r := by
        cases hg : gapFrom s (s.size + 1) i [] with
        | none => rw [hg] at hq; cases hq
        | some g =>
          rw [hg] at hq
          cases ht : tokOf s g.2.2 x.dot (dottedB x.kind) with
          | none => simp [ht] at hq
          | some r' =>
            simp [ht] at hq
            obtain ⟨rfl, rfl⟩ := hq
            exact ⟨rfl, ht⟩
      obtain ⟨hg, hto⟩ := hgt
      clear hq
      have hgl := gap_len _ _ _ _ hi hg
      have hk0 : k0 ≤ s.size := hgl.2.1
      have hik : i ≤ k0 := hgl.2.2
      have hcl : cs.length ≤ 4096 := by have h1 : cs.length + i ≤ 0 + k0 := hgl.1; omega
      obtain ⟨hr1, hr2, hr3⟩ := tokOf_gt hk0 hto
      have hkr : k0 ≤ r.stop := by
        by_cases hke : k0 = s.size
        · rw [(hr1 hke).1]; exact Nat.le_refl _
        · exact Nat.le_of_lt (hr2 (by omega))
      obtain ⟨hmown, A3, c3, rfl⟩ := hmr
      obtain ⟨tx, htx⟩ : ∃ tx, r.text.getD ⟨#[]⟩ = tx := ⟨_, rfl⟩
      obtain ⟨bs, hbs⟩ : ∃ bs, r.base.getD 0 = bs := ⟨_, rfl⟩
      obtain ⟨D, hD⟩ : ∃ D, (!x.dot && isDot r.kind && dottedB x.kind) = D := ⟨_, rfl⟩
      have hl' : LxAt w1 b f ⟨r.kind, .slice A3 cs.length c3, s.extract fr k0, s.extract k0 r.stop, tx, bs, (k0 : Nat), (r.stop : Nat), (r.stop : Nat), x.kind, D⟩ := by
        rw [← htx, ← hbs, ← hD]
        exact hl
      have q1 : w1.cell? ⟨b, 1, none⟩ = some (.string r.kind) := hl'.cell1
      have q2 : w1.cell? ⟨b, 2, none⟩ = some (.slice A3 cs.length c3) := hl'.cell2
      have q3 : w1.cell? ⟨b, 3, none⟩ = some (.string (s.extract fr k0)) := hl'.cell3
      have q4 : w1.cell? ⟨b, 4, none⟩ = some (.string (s.extract k0 r.stop)) := hl'.cell4
      have q5 : w1.cell? ⟨b, 5, none⟩ = some (.string tx) := hl'.cell5
      have q6 : w1.cell? ⟨b, 6, none⟩ = some (.int .i64 bs) := hl'.cell6
      have q7 : w1.cell? ⟨b, 7, none⟩ = some (.int .i64 k0) := hl'.cell7
      have q8 : w1.cell? ⟨b, 8, none⟩ = some (.int .i64 r.stop) := hl'.cell8
      have Hto := Lib.hid (tokenOf_c r.kind (s.extract fr k0) (s.extract k0 r.stop) tx bs k0 r.stop (.slice A3 cs.length c3) cs wr.heap.size w1 ⟨hmown, A3, c3, rfl⟩ hO.size hcl)
      have hrow1 := Hrow.out.kp (hO.kpL Hlx.out)
      have hb1 := Hbel.out.trans (hO.below hwb hBw)
      have hf1 := Hfile.out.only hO hne
      have Hl := Lib.hid hl'
      have Hrow1 := Lib.hid hrow1
      have Hb1 := Lib.hid hb1
      have Hf1 := Lib.hid hf1
      have Htx := Lib.hid htx
      have Hbs := Lib.hid hbs
      have HD := Lib.hid hD
      have Hg := Lib.hid hg
      have Htok := Lib.hid hto
      have Hr1 := Lib.hid hr1
      have Hr2 := Lib.hid hr2
      have hOs := hO.size
      clear hl hl' hrow1 hb1 hf1 htx hbs hD hg hto hgl hr1 hr2 hmown hO Hfile Hlx Hrow Hnt
      go_wp2_with fail
      refine Hto.out.mono ?_
      rintro e w2 ⟨cv, rfl, hC, hB2⟩
      obtain ⟨hCo, A4, c4, rfl⟩ := hC
      have hC2 : CmtRow w2 w.heap.size (.slice A4 cs.length c4) cs := ⟨own_base hCo (by omega), A4, c4, rfl⟩
      have hrow2 := Hrow1.out.below hB2
      rw [Hn.out] at hrow2
      have hrown := hrow2.1
      rw [Hn.out] at hrown
      have hb2 := Hb1.out.trans (hB2.mono (by omega))
      have hl2 := Hl.out.below hB2
      have hf2 := Hf1.out.below hB2
      have Hrow2 := Lib.hid hrow2
      have Hrown := Lib.hid hrown
      have Hb2 := Lib.hid hb2
      have Hl2 := Lib.hid hl2
      have Hf2 := Lib.hid hf2
      have HC2 := Lib.hid hC2
      have hb2s := hb2.size
      clear hrow2 hrown hb2 hl2 hf2 hC2 hCo q1 q2 q3 q4 q5 q6 q7 q8 Hto
      go_wp2_with (at_builtin; refine wpList_append_lies _ rfl (.tmp 16) (.tmp 22) 25 rfl w.heap.size 31 it (.agg #[.string ⟨#[]⟩, .string ⟨#[]⟩, .string ⟨#[]⟩, .string ⟨#[]⟩, .int .i64 0, .int .i64 0, .int .i64 0, .slice none 0 0]) 8 112 Tryz.underlying25 hit htz0 htz1 htz2 rfl (by decide) (.slice A n c) n (ts.flatMap tokCells) rfl (Hrown.out.alloc (.cells #[.string r.kind, .string (s.extract fr k0), .string (s.extract k0 r.stop), .string tx, .int .i64 bs, .int .i64 k0, .int .i64 r.stop, .slice A4 cs.length c4] 31)) ⟨w2.heap.size, 0, none⟩ 1 1 [.string r.kind, .string (s.extract fr k0), .string (s.extract k0 r.stop), .string tx, .int .i64 bs, .int .i64 k0, .int .i64 r.stop, .slice A4 cs.length c4] rfl rfl (fun q u h => cells_new w2 #[.string r.kind, .string (s.extract fr k0), .string (s.extract k0 r.stop), .string tx, .int .i64 bs, .int .i64 k0, .int .i64 r.stop, .slice A4 cs.length c4] 31 q u h) (by intro u hu; simp at hu; rcases hu with rfl | rfl | rfl | rfl | rfl | rfl | rfl | rfl <;> rfl) (by omega) (by unfold maxLen; omega) (by omega) (by simp; omega) _ rfl ?_; intro g2 cap w3 hown hgrow hat hlt; have hl3 := grown_lx1 Hl2.out hgrow (own_tag_ne Hrown.out Hl2.out (by decide)); have z1 : w3.cell? ⟨b, 1, none⟩ = some (.string r.kind) := hl3.cell1)
      all_goals
        have hrow4 := tok_push (t := mkTok s (cs, fr, k0) r) (Hrow2.out.below ((Below.refl _ _).alloc (Nat.le_refl _) _)) (HC2.out.below ((Below.refl _ _).alloc (Nat.le_refl _) _)) (by rw [Hn.out]) (by rw [← Htx.out, ← Hbs.out]; rfl) hown hgrow
        have hb4 : RowKit.Below w.heap.size w w3 := (Hb2.out.alloc (by omega) _).grown hgrow (by simp; omega) (fun k2 hk2 => (Hrown.out.lt k2 hk2).1)
        have hf4 := grown_file1 Hf2.out hgrow (own_tag_ne Hrown.out Hf2.out (by decide))
        clear hown hgrow hat hlt
      · rename_i heb
        have he : eofB r.kind = true := heb
        have hok : Hid (specLex s = some (ts.map Prod.fst ++ [mkTok s (cs, fr, k0) r])) := by show _ = _; rw [← hr.out]; exact lexFrom_eof Hg.out (by rw [← Hdt.out, ← Hkl.out]; exact Htok.out) he
        clear he
        go_ret3
        exact lexPost_good hok.out hb4 (by rw [List.length_append, Hn.out]; rfl) hrow4 (by rw [List.map_append]; rfl)
      · rename_i heb
        have he : eofB r.kind = false := heb
        have hgo := Lib.hid (lexFrom_go (f := fu) Hg.out (by rw [← Hdt.out, ← Hkl.out]; exact Htok.out) he)
        have hir : i + 1 ≤ r.stop := by
          by_cases hke : k0 = s.size
          · have := (Hr1.out hke).2; rw [he] at this; cases this
          · have := Hr2.out (by omega); omega
        clear he
        go_roundg fu
        case measure => omega
        case rel =>
          refine ⟨r.stop, ts ++ [(mkTok s (cs, fr, k0) r, .slice A4 cs.length c4)], some ⟨g2, 0, none⟩, cap, _, ?_, hr3, ?_, by omega, hl3, rfl, ⟨?_, ?_⟩, hf4, hrow4, hb4, ?_⟩
          · rw [List.length_append, Hn.out]; rfl
          · rw [List.length_append, Hn.out]; simp; omega
          · rw [List.map_append]
            show r.kind = lastKind (ts.map Prod.fst ++ [mkTok s (cs, fr, k0) r])
            rw [lastKind_app]
            rfl
          · rw [List.map_append]
            show D = _
            rw [← HD.out]
            have h1 := path_next (ts.map Prod.fst) (mkTok s (cs, fr, k0) r)
            rw [← Hst.out, ← Hdt.out] at h1
            exact h1.symm
          · show _ = _; rw [← hr.out, hgo.out, List.map_append]; rfl
end Go.Proofs.YtmkkeacbabmaeaaGreatDoor
namespace Go.Proofs.YtmkkeacbabmaeaaGreatDoor
open Go.RowKit Go.PlainAid

/-- A token as a value. -/
def tokVal (t : TokD) (v : Value) : Value := .agg #[.string t.kind, .string t.space, .string t.raw, .string t.text, .int .i64 t.base, .int .i64 t.pos, .int .i64 t.stop, v]
theorem cmt_cells {w : World} {B g n cap : Nat} {cs : List CmtD} (h : CmtRow w B (.slice (some ⟨g, 0, none⟩) n cap) cs) (j : Nat) (hj : j < cs.length) :
    w.cell? ⟨g, j * 4, none⟩ = some (.string (cs[j]'hj).space) ∧ w.cell? ⟨g, j * 4 + 1, none⟩ = some (.string (cs[j]'hj).raw) ∧ w.cell? ⟨g, j * 4 + 2, none⟩ = some (.int .i64 (cs[j]'hj).pos) ∧ w.cell? ⟨g, j * 4 + 3, none⟩ = some (.int .i64 (cs[j]'hj).stop) := by
  have aux : ∀ (l : List CmtD) (k : Nat) (hk : k < l.length) (q : Nat), q < 4 → (l.flatMap cmtCells)[k * 4 + q]? = (cmtCells (l[k]'hk))[q]? := by
    intro l
    induction l with
    | nil => intro k hk; cases hk
    | cons a l ih =>
      intro k hk q hq
      cases k with
      | zero =>
        rw [List.flatMap_cons, List.getElem?_append_left (by simp [cmtCells]; omega)]
        simp
      | succ k =>
        rw [List.flatMap_cons, List.getElem?_append_right (by simp [cmtCells]; omega)]
        have : (k + 1) * 4 + q - (cmtCells a).length = k * 4 + q := by simp [cmtCells]; omega
        rw [this]
        exact ih k (by simpa using hk) q hq
  have key : ∀ q u, q < 4 → (cmtCells (cs[j]'hj))[q]? = some u → w.cell? ⟨g, j * 4 + q, none⟩ = some u := by
    intro q u hq hu
    have hc := h.1.cells (g := g) rfl (j * 4 + q) u ((aux cs j hj q hq).trans hu)
    rwa [add_off] at hc
  exact ⟨key 0 _ (by omega) rfl, key 1 _ (by omega) rfl, key 2 _ (by omega) rfl, key 3 _ (by omega) rfl⟩

set_option maxHeartbeats 1000000 in
set_option maxRecDepth 100000 in
theorem alike_c (t : TokD) (v1 v2 : Value) (w : World) :
    Calls Tryz.prog 20 #[tokVal t v1, tokVal t v2] w fun e w' => e = .returned (.bool true) ∧ RowKit.Below w.heap.size w w' := by
  unfold tokVal
  go_enter Tryz.func20, Tryz.ntmps20
  go_wp2_with fail
  go_ret
  exact ⟨rfl, ((RowKit.Below.refl w.heap.size w).alloc (Nat.le_refl _) _).alloc (by simp) _⟩

set_option maxHeartbeats 4000000 in
set_option maxRecDepth 100000 in
theorem sameToken_c (t : TokD) (v1 v2 : Value) (B1 B2 : Nat) (w : World) (h1 : CmtRow w B1 v1 t.comments) (h2 : CmtRow w B2 v2 t.comments) (hl : t.comments.length ≤ 274877906944) :
    Calls Tryz.prog 10 #[tokVal t v1, tokVal t v2] w fun e w' => e = .returned (.bool true) ∧ RowKit.Below w.heap.size w w' := by
  obtain ⟨h1o, A1, c1, rfl⟩ := h1
  obtain ⟨h2o, A2, c2, rfl⟩ := h2
  have hal := fun (W : World) => alike_c t (.slice A1 t.comments.length c1) (.slice A2 t.comments.length c2) W
  unfold tokVal at *
  have Hal := Lib.hid hal
  have H1 := Lib.hid h1o
  have H2 := Lib.hid h2o
  obtain ⟨m, hm⟩ : ∃ m, t.comments.length = m := ⟨_, rfl⟩
  rw [hm] at hl
  have Hm := Lib.hid hm
  rw [hm] at Hal ⊢
  clear hal h1o h2o hm
  go_enter Tryz.func10, Tryz.ntmps10
  go_wp2_with fail
  obtain ⟨n, hn⟩ : ∃ n, w.heap.size = n := ⟨_, rfl⟩
  have e1 := heap_alloc_new w (.cells #[.string t.kind, .string t.space, .string t.raw, .string t.text, .int .i64 t.base, .int .i64 t.pos, .int .i64 t.stop, .slice A1 m c1] 31)
  have e2 := heap_alloc_new (w.alloc (.cells #[.string t.kind, .string t.space, .string t.raw, .string t.text, .int .i64 t.base, .int .i64 t.pos, .int .i64 t.stop, .slice A1 m c1] 31)) (.cells #[.string t.kind, .string t.space, .string t.raw, .string t.text, .int .i64 t.base, .int .i64 t.pos, .int .i64 t.stop, .slice A2 m c2] 31)
  have e3 := (RowKit.Below.heap_alloc (w.alloc (.cells #[.string t.kind, .string t.space, .string t.raw, .string t.text, .int .i64 t.base, .int .i64 t.pos, .int .i64 t.stop, .slice A1 m c1] 31)) (.cells #[.string t.kind, .string t.space, .string t.raw, .string t.text, .int .i64 t.base, .int .i64 t.pos, .int .i64 t.stop, .slice A2 m c2] 31) w.heap.size (by simp)).trans e1
  have hz : (w.alloc (.cells #[.string t.kind, .string t.space, .string t.raw, .string t.text, .int .i64 t.base, .int .i64 t.pos, .int .i64 t.stop, .slice A1 m c1] 31)).heap.size = w.heap.size + 1 := by simp
  rw [hz] at e2
  have hbw := ((RowKit.Below.refl w.heap.size w).alloc (Nat.le_refl _) (.cells #[.string t.kind, .string t.space, .string t.raw, .string t.text, .int .i64 t.base, .int .i64 t.pos, .int .i64 t.stop, .slice A1 m c1] 31)).alloc (by simp) (.cells #[.string t.kind, .string t.space, .string t.raw, .string t.text, .int .i64 t.base, .int .i64 t.pos, .int .i64 t.stop, .slice A2 m c2] 31)
  obtain ⟨W, hW⟩ : ∃ W, ((w.alloc (.cells #[.string t.kind, .string t.space, .string t.raw, .string t.text, .int .i64 t.base, .int .i64 t.pos, .int .i64 t.stop, .slice A1 m c1] 31)).alloc (.cells #[.string t.kind, .string t.space, .string t.raw, .string t.text, .int .i64 t.base, .int .i64 t.pos, .int .i64 t.stop, .slice A2 m c2] 31)) = W := ⟨_, rfl⟩
  rw [hW] at e2 e3 hbw ⊢
  clear hW e1 hz
  refine (Hal.out _).mono ?_
  rintro e w1 ⟨rfl, hb⟩
  have x1 : TokAt w1 w.heap.size (tokS t.kind t.space t.raw t.text t.base t.pos t.stop (.slice A1 m c1)) := TokAt.kept (show TokAt W w.heap.size _ from e3) (hb.block _ (Array.getElem?_eq_some_iff.1 e3).1)
  have x2 : TokAt w1 (w.heap.size + 1) (tokS t.kind t.space t.raw t.text t.base t.pos t.stop (.slice A2 m c2)) := TokAt.kept (show TokAt W (w.heap.size + 1) _ from e2) (hb.block _ (Array.getElem?_eq_some_iff.1 e2).1)
  have hbel := hbw.trans (hb.mono hbw.size)
  rw [hn] at x1 x2 hbel ⊢
  have p1 : w1.cell? ⟨n, 1, none⟩ = some (.string t.space) := x1.cell1
  have p5 : w1.cell? ⟨n, 5, none⟩ = some (.int .i64 t.pos) := x1.cell5
  have p6 : w1.cell? ⟨n, 6, none⟩ = some (.int .i64 t.stop) := x1.cell6
  have p7 : w1.cell? ⟨n, 7, none⟩ = some (.slice A1 m c1) := x1.cell7
  have r1 : w1.cell? ⟨n + 1, 1, none⟩ = some (.string t.space) := x2.cell1
  have r5 : w1.cell? ⟨n + 1, 5, none⟩ = some (.int .i64 t.pos) := x2.cell5
  have r6 : w1.cell? ⟨n + 1, 6, none⟩ = some (.int .i64 t.stop) := x2.cell6
  have r7 : w1.cell? ⟨n + 1, 7, none⟩ = some (.slice A2 m c2) := x2.cell7
  have Hrow1 := Lib.hid (own_below' H1.out (hbel.mono (by omega)))
  have Hrow2 := Lib.hid (own_below' H2.out (hbel.mono (by omega)))
  have Hbel := Lib.hid hbel
  clear x1 x2 hbel hb hbw e2 e3
  go_wp2_with fail
  go_loopw [43] (fun v wr => ∃ j d : Nat, v = .int .i64 j ∧ j ≤ m ∧ wr = w1.drewN d) (fun v _ => m - (intOf v).toNat)
  case atStart => exact ⟨0, 0, rfl, by omega, rfl⟩
  case round =>
    obtain ⟨j, d, rfl, hj, hwr⟩ := hrel
    by_cases hlt : j < m
    · have hjl : j < t.comments.length := by have := Hm.out; omega
      have hR1 := Hrow1.out
      have hR2 := Hrow2.out
      rw [Hm.out] at hR1 hR2
      rcases hR1.2 with ⟨hv, h0⟩ | ⟨g1, cp1, cur1, hv, hrest⟩
      · omega
      · rcases hR2.2 with ⟨hv', h0⟩ | ⟨g2, cp2, cur2, hv', hrest'⟩
        · omega
        · clear hrest hrest'
          simp at hv hv'
          obtain ⟨rfl, rfl⟩ := hv
          obtain ⟨rfl, rfl⟩ := hv'
          have hm1 := Hm.out
          obtain ⟨a0, a1, a2, a3⟩ := cmt_cells (cs := t.comments) (show CmtRow w1 B1 (.slice (some ⟨g1, 0, none⟩) m c1) t.comments from ⟨by rw [hm1]; exact hR1, some ⟨g1, 0, none⟩, c1, by rw [hm1]⟩) j hjl
          obtain ⟨d0, d1, d2, d3⟩ := cmt_cells (cs := t.comments) (show CmtRow w1 B2 (.slice (some ⟨g2, 0, none⟩) m c2) t.comments from ⟨by rw [hm1]; exact hR2, some ⟨g2, 0, none⟩, c2, by rw [hm1]⟩) j hjl
          obtain ⟨cc, hcc⟩ : ∃ cc, t.comments[j]'hjl = cc := ⟨_, rfl⟩
          rw [hcc] at a0 a1 a2 a3 d0 d1 d2 d3
          have x7 : wr.cell? ⟨n, 7, none⟩ = some (.slice (some ⟨g1, 0, none⟩) m c1) := by rw [hwr]; exact p7
          have y7 : wr.cell? ⟨n + 1, 7, none⟩ = some (.slice (some ⟨g2, 0, none⟩) m c2) := by rw [hwr]; exact r7
          have x0 : wr.cell? ⟨g1, j * 4, none⟩ = some (.string cc.space) := by rw [hwr]; exact a0
          have x1 : wr.cell? ⟨g1, j * 4 + 1, none⟩ = some (.string cc.raw) := by rw [hwr]; exact a1
          have x2 : wr.cell? ⟨g1, j * 4 + 2, none⟩ = some (.int .i64 cc.pos) := by rw [hwr]; exact a2
          have x3 : wr.cell? ⟨g1, j * 4 + 3, none⟩ = some (.int .i64 cc.stop) := by rw [hwr]; exact a3
          have y0 : wr.cell? ⟨g2, j * 4, none⟩ = some (.string cc.space) := by rw [hwr]; exact d0
          have y1 : wr.cell? ⟨g2, j * 4 + 1, none⟩ = some (.string cc.raw) := by rw [hwr]; exact d1
          have y2 : wr.cell? ⟨g2, j * 4 + 2, none⟩ = some (.int .i64 cc.pos) := by rw [hwr]; exact d2
          have y3 : wr.cell? ⟨g2, j * 4 + 3, none⟩ = some (.int .i64 cc.stop) := by rw [hwr]; exact d3
          have Hwr := Lib.hid hwr
          clear hR1 hR2 hcc hm1 hwr a0 a1 a2 a3 d0 d1 d2 d3 p7 r7
          go_wp2_with fail
          go_quiet (fail)
          go_wp2_with fail
          refine ⟨⟨j + 1, d + nq, rfl, by omega, by rw [Hwr.out, World.drewN_drewN]⟩, ?_⟩
          simp [intOf]
          omega
    · have hb2 : RowKit.Below n w wr := by rw [hwr]; exact Hbel.out.trans (below_dn _ _ _)
      have Hb2 := Lib.hid hb2
      clear hb2 hwr
      go_wp2_with fail
      go_ret
      exact ⟨rfl, by rw [hn]; exact Hb2.out⟩
end Go.Proofs.YtmkkeacbabmaeaaGreatDoor
