/- One token: more signs of one byte. No condition but the ones it names. · One token: signs of two bytes. No condition but the ones it names. · One token: signs that stand alone. No condition but the ones it names. · One token: numbers. No condition but the ones it names. · One token: dots. No condition but the ones it names. · One token: a parameter's name. No condition but the ones it names. · One token: a name between backquotes. No condition but the ones it names. · The parser's one token is the reference's. Condition: the place is no blank's and no comment's; what the text says of signs. · The parser's token where a field's name may stand is the reference's. Condition: the place is no blank's and no comment's; what the text says of signs. · Lists of comments and of tokens in memory. No condition. · The parser skips one comment. Condition: as for skipping up to a comment's end; no comment's begin and end in one. · Rows of comments in the parser's memory; what is asked of a text; what the next token leaves. No condition. -/
import Derived.Test.YtmkkeacbabmaeaaGreatDoorM05
import Derived.Test.YtmkkeacbabmaeaaGreatDoorM09
import Derived.StillTailTactics
import Derived.Test.YtmkkeacbabmaeaaGreatDoorM10
import Derived.Test.YtmkkeacbabmaeaaGreatDoorM01
import Derived.Test.YtmkkeacbabmaeaaGreatDoorM03
import Derived.Deep.AppendLies
namespace Go.Proofs.YtmkkeacbabmaeaaGreatDoor
open Go.RowKit Go.PlainAid

set_option maxHeartbeats 8000000 in
set_option maxRecDepth 1000000 in
theorem tok_one42 (s : ByteArray) (b f i B : Nat) (x : LxS) (w : World) (h : THead s b f i B x w) (hi : i < s.size) (hc : bt s i = 42) :
    Calls Tryz.prog 38 #[.pointer (some ⟨b, 0, none⟩), .bool false] w (Step b f x B (tokStep x (dottedB x.last) (tokOf s i false (dottedB x.last))) w) := by
  have hs := h.env.small
  have Hspec : Hid (tokOf s i false (dottedB x.last) = some ⟨⟨#[42]⟩, none, none, i + 1⟩) := by
    show _ = _
    rw [tok_sign hi (by omega) (by rw [hc]; decide) (fun k => by have := k.1; omega) (fun k => by have := k.1; omega) (by omega) (by rw [hc]; decide), signOf_eq]
    simp [symL, sigL, hc]
  have Hc := Lib.hid hc
  clear hc
  have H := Lib.hid h
  clear h
  go_enter Tryz.func38, Tryz.ntmps38
  go_wp2_with fail
  refine H.out.eof0.mono ?_
  rintro e w' ⟨rfl, n1, rfl⟩
  rw [decide_eq_false (show ¬ s.size ≤ i by omega)]
  go_wp2_with fail
  refine (H.out.peek n1 0 _ rfl hi).mono ?_
  rintro e w' ⟨rfl, n2, rfl⟩
  rw [show bt s (i + 0) = 42 from Hc.out]
  go_wp2_with fail
  refine (H.out.skip n2 hi).mono ?_
  rintro e w' ⟨rfl, n3, hw⟩
  rw [Hc.out]
  have hx2 := ((H.out.dn n3).lx).setPos ((i + 1 : Nat) : Int)
  have hO2 := ((Only.refl b w).dn n3).setCell 9 (.int .i64 ((i + 1 : Nat) : Int))
  obtain ⟨W, hW⟩ : ∃ W, (w.drewN n3).setCell ⟨b, 9, none⟩ (.int .i64 ((i + 1 : Nat) : Int)) = W := ⟨_, rfl⟩
  rw [hW] at hx2 hO2 hw
  replace hw := hw.symm
  subst hw
  clear hW
  have HX2 := Lib.hid hx2
  have HO2 := Lib.hid hO2
  have c1 := hx2.cell1
  have f1 := hx2.free 1
  have c11 := hx2.cell11
  have f11 := hx2.free 11
  have hlt := hx2.lt
  clear hx2 hO2
  have hcv : (convert 89 41 (.slice (some ⟨W.heap.size, 0, none⟩) 1 1)).run Tryz.prog (W.alloc (.cells #[.int .u8 42] 5)) = .ok (.string ⟨#[42]⟩) (W.alloc (.cells #[.int .u8 42] 5)) := one_kind W 42
  go_wp2_with fail
  refine bodyPost_ret (results_none rfl _ _ _) rfl ?_
  exact step_tok Hspec.out rfl (alloc_keeps (HX2.out.setKind _)) ((HO2.out.setCell 1 _).alloc _)
set_option maxHeartbeats 8000000 in
set_option maxRecDepth 1000000 in
theorem tok_one47 (s : ByteArray) (b f i B : Nat) (x : LxS) (w : World) (h : THead s b f i B x w) (hi : i < s.size) (hc : bt s i = 47) :
    Calls Tryz.prog 38 #[.pointer (some ⟨b, 0, none⟩), .bool false] w (Step b f x B (tokStep x (dottedB x.last) (tokOf s i false (dottedB x.last))) w) := by
  have hs := h.env.small
  have Hspec : Hid (tokOf s i false (dottedB x.last) = some ⟨⟨#[47]⟩, none, none, i + 1⟩) := by
    show _ = _
    rw [tok_sign hi (by omega) (by rw [hc]; decide) (fun k => by have := k.1; omega) (fun k => by have := k.1; omega) (by omega) (by rw [hc]; decide), signOf_eq]
    simp [symL, sigL, hc]
  have Hc := Lib.hid hc
  clear hc
  have H := Lib.hid h
  clear h
  go_enter Tryz.func38, Tryz.ntmps38
  go_wp2_with fail
  refine H.out.eof0.mono ?_
  rintro e w' ⟨rfl, n1, rfl⟩
  rw [decide_eq_false (show ¬ s.size ≤ i by omega)]
  go_wp2_with fail
  refine (H.out.peek n1 0 _ rfl hi).mono ?_
  rintro e w' ⟨rfl, n2, rfl⟩
  rw [show bt s (i + 0) = 47 from Hc.out]
  go_wp2_with fail
  refine (H.out.skip n2 hi).mono ?_
  rintro e w' ⟨rfl, n3, hw⟩
  rw [Hc.out]
  have hx2 := ((H.out.dn n3).lx).setPos ((i + 1 : Nat) : Int)
  have hO2 := ((Only.refl b w).dn n3).setCell 9 (.int .i64 ((i + 1 : Nat) : Int))
  obtain ⟨W, hW⟩ : ∃ W, (w.drewN n3).setCell ⟨b, 9, none⟩ (.int .i64 ((i + 1 : Nat) : Int)) = W := ⟨_, rfl⟩
  rw [hW] at hx2 hO2 hw
  replace hw := hw.symm
  subst hw
  clear hW
  have HX2 := Lib.hid hx2
  have HO2 := Lib.hid hO2
  have c1 := hx2.cell1
  have f1 := hx2.free 1
  have c11 := hx2.cell11
  have f11 := hx2.free 11
  have hlt := hx2.lt
  clear hx2 hO2
  have hcv : (convert 89 41 (.slice (some ⟨W.heap.size, 0, none⟩) 1 1)).run Tryz.prog (W.alloc (.cells #[.int .u8 47] 5)) = .ok (.string ⟨#[47]⟩) (W.alloc (.cells #[.int .u8 47] 5)) := one_kind W 47
  go_wp2_with fail
  refine bodyPost_ret (results_none rfl _ _ _) rfl ?_
  exact step_tok Hspec.out rfl (alloc_keeps (HX2.out.setKind _)) ((HO2.out.setCell 1 _).alloc _)
set_option maxHeartbeats 8000000 in
set_option maxRecDepth 1000000 in
theorem tok_one38 (s : ByteArray) (b f i B : Nat) (x : LxS) (w : World) (h : THead s b f i B x w) (hi : i < s.size) (hc : bt s i = 38) :
    Calls Tryz.prog 38 #[.pointer (some ⟨b, 0, none⟩), .bool false] w (Step b f x B (tokStep x (dottedB x.last) (tokOf s i false (dottedB x.last))) w) := by
  have hs := h.env.small
  have Hspec : Hid (tokOf s i false (dottedB x.last) = some ⟨⟨#[38]⟩, none, none, i + 1⟩) := by
    show _ = _
    rw [tok_sign hi (by omega) (by rw [hc]; decide) (fun k => by have := k.1; omega) (fun k => by have := k.1; omega) (by omega) (by rw [hc]; decide), signOf_eq]
    simp [symL, sigL, hc]
  have Hc := Lib.hid hc
  clear hc
  have H := Lib.hid h
  clear h
  go_enter Tryz.func38, Tryz.ntmps38
  go_wp2_with fail
  refine H.out.eof0.mono ?_
  rintro e w' ⟨rfl, n1, rfl⟩
  rw [decide_eq_false (show ¬ s.size ≤ i by omega)]
  go_wp2_with fail
  refine (H.out.peek n1 0 _ rfl hi).mono ?_
  rintro e w' ⟨rfl, n2, rfl⟩
  rw [show bt s (i + 0) = 38 from Hc.out]
  go_wp2_with fail
  refine (H.out.skip n2 hi).mono ?_
  rintro e w' ⟨rfl, n3, hw⟩
  rw [Hc.out]
  have hx2 := ((H.out.dn n3).lx).setPos ((i + 1 : Nat) : Int)
  have hO2 := ((Only.refl b w).dn n3).setCell 9 (.int .i64 ((i + 1 : Nat) : Int))
  obtain ⟨W, hW⟩ : ∃ W, (w.drewN n3).setCell ⟨b, 9, none⟩ (.int .i64 ((i + 1 : Nat) : Int)) = W := ⟨_, rfl⟩
  rw [hW] at hx2 hO2 hw
  replace hw := hw.symm
  subst hw
  clear hW
  have HX2 := Lib.hid hx2
  have HO2 := Lib.hid hO2
  have c1 := hx2.cell1
  have f1 := hx2.free 1
  have c11 := hx2.cell11
  have f11 := hx2.free 11
  have hlt := hx2.lt
  clear hx2 hO2
  have hcv : (convert 89 41 (.slice (some ⟨W.heap.size, 0, none⟩) 1 1)).run Tryz.prog (W.alloc (.cells #[.int .u8 38] 5)) = .ok (.string ⟨#[38]⟩) (W.alloc (.cells #[.int .u8 38] 5)) := one_kind W 38
  go_wp2_with fail
  refine bodyPost_ret (results_none rfl _ _ _) rfl ?_
  exact step_tok Hspec.out rfl (alloc_keeps (HX2.out.setKind _)) ((HO2.out.setCell 1 _).alloc _)
set_option maxHeartbeats 8000000 in
set_option maxRecDepth 1000000 in
theorem tok_one94 (s : ByteArray) (b f i B : Nat) (x : LxS) (w : World) (h : THead s b f i B x w) (hi : i < s.size) (hc : bt s i = 94) :
    Calls Tryz.prog 38 #[.pointer (some ⟨b, 0, none⟩), .bool false] w (Step b f x B (tokStep x (dottedB x.last) (tokOf s i false (dottedB x.last))) w) := by
  have hs := h.env.small
  have Hspec : Hid (tokOf s i false (dottedB x.last) = some ⟨⟨#[94]⟩, none, none, i + 1⟩) := by
    show _ = _
    rw [tok_sign hi (by omega) (by rw [hc]; decide) (fun k => by have := k.1; omega) (fun k => by have := k.1; omega) (by omega) (by rw [hc]; decide), signOf_eq]
    simp [symL, sigL, hc]
  have Hc := Lib.hid hc
  clear hc
  have H := Lib.hid h
  clear h
  go_enter Tryz.func38, Tryz.ntmps38
  go_wp2_with fail
  refine H.out.eof0.mono ?_
  rintro e w' ⟨rfl, n1, rfl⟩
  rw [decide_eq_false (show ¬ s.size ≤ i by omega)]
  go_wp2_with fail
  refine (H.out.peek n1 0 _ rfl hi).mono ?_
  rintro e w' ⟨rfl, n2, rfl⟩
  rw [show bt s (i + 0) = 94 from Hc.out]
  go_wp2_with fail
  refine (H.out.skip n2 hi).mono ?_
  rintro e w' ⟨rfl, n3, hw⟩
  rw [Hc.out]
  have hx2 := ((H.out.dn n3).lx).setPos ((i + 1 : Nat) : Int)
  have hO2 := ((Only.refl b w).dn n3).setCell 9 (.int .i64 ((i + 1 : Nat) : Int))
  obtain ⟨W, hW⟩ : ∃ W, (w.drewN n3).setCell ⟨b, 9, none⟩ (.int .i64 ((i + 1 : Nat) : Int)) = W := ⟨_, rfl⟩
  rw [hW] at hx2 hO2 hw
  replace hw := hw.symm
  subst hw
  clear hW
  have HX2 := Lib.hid hx2
  have HO2 := Lib.hid hO2
  have c1 := hx2.cell1
  have f1 := hx2.free 1
  have c11 := hx2.cell11
  have f11 := hx2.free 11
  have hlt := hx2.lt
  clear hx2 hO2
  have hcv : (convert 89 41 (.slice (some ⟨W.heap.size, 0, none⟩) 1 1)).run Tryz.prog (W.alloc (.cells #[.int .u8 94] 5)) = .ok (.string ⟨#[94]⟩) (W.alloc (.cells #[.int .u8 94] 5)) := one_kind W 94
  go_wp2_with fail
  refine bodyPost_ret (results_none rfl _ _ _) rfl ?_
  exact step_tok Hspec.out rfl (alloc_keeps (HX2.out.setKind _)) ((HO2.out.setCell 1 _).alloc _)
set_option maxHeartbeats 8000000 in
set_option maxRecDepth 1000000 in
theorem tok_one37 (s : ByteArray) (b f i B : Nat) (x : LxS) (w : World) (h : THead s b f i B x w) (hi : i < s.size) (hc : bt s i = 37) :
    Calls Tryz.prog 38 #[.pointer (some ⟨b, 0, none⟩), .bool false] w (Step b f x B (tokStep x (dottedB x.last) (tokOf s i false (dottedB x.last))) w) := by
  have hs := h.env.small
  have Hspec : Hid (tokOf s i false (dottedB x.last) = some ⟨⟨#[37]⟩, none, none, i + 1⟩) := by
    show _ = _
    rw [tok_sign hi (by omega) (by rw [hc]; decide) (fun k => by have := k.1; omega) (fun k => by have := k.1; omega) (by omega) (by rw [hc]; decide), signOf_eq]
    simp [symL, sigL, hc]
  have Hc := Lib.hid hc
  clear hc
  have H := Lib.hid h
  clear h
  go_enter Tryz.func38, Tryz.ntmps38
  go_wp2_with fail
  refine H.out.eof0.mono ?_
  rintro e w' ⟨rfl, n1, rfl⟩
  rw [decide_eq_false (show ¬ s.size ≤ i by omega)]
  go_wp2_with fail
  refine (H.out.peek n1 0 _ rfl hi).mono ?_
  rintro e w' ⟨rfl, n2, rfl⟩
  rw [show bt s (i + 0) = 37 from Hc.out]
  go_wp2_with fail
  refine (H.out.skip n2 hi).mono ?_
  rintro e w' ⟨rfl, n3, hw⟩
  rw [Hc.out]
  have hx2 := ((H.out.dn n3).lx).setPos ((i + 1 : Nat) : Int)
  have hO2 := ((Only.refl b w).dn n3).setCell 9 (.int .i64 ((i + 1 : Nat) : Int))
  obtain ⟨W, hW⟩ : ∃ W, (w.drewN n3).setCell ⟨b, 9, none⟩ (.int .i64 ((i + 1 : Nat) : Int)) = W := ⟨_, rfl⟩
  rw [hW] at hx2 hO2 hw
  replace hw := hw.symm
  subst hw
  clear hW
  have HX2 := Lib.hid hx2
  have HO2 := Lib.hid hO2
  have c1 := hx2.cell1
  have f1 := hx2.free 1
  have c11 := hx2.cell11
  have f11 := hx2.free 11
  have hlt := hx2.lt
  clear hx2 hO2
  have hcv : (convert 89 41 (.slice (some ⟨W.heap.size, 0, none⟩) 1 1)).run Tryz.prog (W.alloc (.cells #[.int .u8 37] 5)) = .ok (.string ⟨#[37]⟩) (W.alloc (.cells #[.int .u8 37] 5)) := one_kind W 37
  go_wp2_with fail
  refine bodyPost_ret (results_none rfl _ _ _) rfl ?_
  exact step_tok Hspec.out rfl (alloc_keeps (HX2.out.setKind _)) ((HO2.out.setCell 1 _).alloc _)
set_option maxHeartbeats 8000000 in
set_option maxRecDepth 1000000 in
theorem tok_one58 (s : ByteArray) (b f i B : Nat) (x : LxS) (w : World) (h : THead s b f i B x w) (hi : i < s.size) (hc : bt s i = 58) :
    Calls Tryz.prog 38 #[.pointer (some ⟨b, 0, none⟩), .bool false] w (Step b f x B (tokStep x (dottedB x.last) (tokOf s i false (dottedB x.last))) w) := by
  have hs := h.env.small
  have Hspec : Hid (tokOf s i false (dottedB x.last) = some ⟨⟨#[58]⟩, none, none, i + 1⟩) := by
    show _ = _
    rw [tok_sign hi (by omega) (by rw [hc]; decide) (fun k => by have := k.1; omega) (fun k => by have := k.1; omega) (by omega) (by rw [hc]; decide), signOf_eq]
    simp [symL, sigL, hc]
  have Hc := Lib.hid hc
  clear hc
  have H := Lib.hid h
  clear h
  go_enter Tryz.func38, Tryz.ntmps38
  go_wp2_with fail
  refine H.out.eof0.mono ?_
  rintro e w' ⟨rfl, n1, rfl⟩
  rw [decide_eq_false (show ¬ s.size ≤ i by omega)]
  go_wp2_with fail
  refine (H.out.peek n1 0 _ rfl hi).mono ?_
  rintro e w' ⟨rfl, n2, rfl⟩
  rw [show bt s (i + 0) = 58 from Hc.out]
  go_wp2_with fail
  refine (H.out.skip n2 hi).mono ?_
  rintro e w' ⟨rfl, n3, hw⟩
  rw [Hc.out]
  have hx2 := ((H.out.dn n3).lx).setPos ((i + 1 : Nat) : Int)
  have hO2 := ((Only.refl b w).dn n3).setCell 9 (.int .i64 ((i + 1 : Nat) : Int))
  obtain ⟨W, hW⟩ : ∃ W, (w.drewN n3).setCell ⟨b, 9, none⟩ (.int .i64 ((i + 1 : Nat) : Int)) = W := ⟨_, rfl⟩
  rw [hW] at hx2 hO2 hw
  replace hw := hw.symm
  subst hw
  clear hW
  have HX2 := Lib.hid hx2
  have HO2 := Lib.hid hO2
  have c1 := hx2.cell1
  have f1 := hx2.free 1
  have c11 := hx2.cell11
  have f11 := hx2.free 11
  have hlt := hx2.lt
  clear hx2 hO2
  have hcv : (convert 89 41 (.slice (some ⟨W.heap.size, 0, none⟩) 1 1)).run Tryz.prog (W.alloc (.cells #[.int .u8 58] 5)) = .ok (.string ⟨#[58]⟩) (W.alloc (.cells #[.int .u8 58] 5)) := one_kind W 58
  go_wp2_with fail
  refine bodyPost_ret (results_none rfl _ _ _) rfl ?_
  exact step_tok Hspec.out rfl (alloc_keeps (HX2.out.setKind _)) ((HO2.out.setCell 1 _).alloc _)
set_option maxHeartbeats 8000000 in
set_option maxRecDepth 1000000 in
theorem tok_one63 (s : ByteArray) (b f i B : Nat) (x : LxS) (w : World) (h : THead s b f i B x w) (hi : i < s.size) (hc : bt s i = 63) :
    Calls Tryz.prog 38 #[.pointer (some ⟨b, 0, none⟩), .bool false] w (Step b f x B (tokStep x (dottedB x.last) (tokOf s i false (dottedB x.last))) w) := by
  have hs := h.env.small
  have Hspec : Hid (tokOf s i false (dottedB x.last) = some ⟨⟨#[63]⟩, none, none, i + 1⟩) := by
    show _ = _
    rw [tok_sign hi (by omega) (by rw [hc]; decide) (fun k => by have := k.1; omega) (fun k => by have := k.1; omega) (by omega) (by rw [hc]; decide), signOf_eq]
    simp [symL, sigL, hc]
  have Hc := Lib.hid hc
  clear hc
  have H := Lib.hid h
  clear h
  go_enter Tryz.func38, Tryz.ntmps38
  go_wp2_with fail
  refine H.out.eof0.mono ?_
  rintro e w' ⟨rfl, n1, rfl⟩
  rw [decide_eq_false (show ¬ s.size ≤ i by omega)]
  go_wp2_with fail
  refine (H.out.peek n1 0 _ rfl hi).mono ?_
  rintro e w' ⟨rfl, n2, rfl⟩
  rw [show bt s (i + 0) = 63 from Hc.out]
  go_wp2_with fail
  refine (H.out.skip n2 hi).mono ?_
  rintro e w' ⟨rfl, n3, hw⟩
  rw [Hc.out]
  have hx2 := ((H.out.dn n3).lx).setPos ((i + 1 : Nat) : Int)
  have hO2 := ((Only.refl b w).dn n3).setCell 9 (.int .i64 ((i + 1 : Nat) : Int))
  obtain ⟨W, hW⟩ : ∃ W, (w.drewN n3).setCell ⟨b, 9, none⟩ (.int .i64 ((i + 1 : Nat) : Int)) = W := ⟨_, rfl⟩
  rw [hW] at hx2 hO2 hw
  replace hw := hw.symm
  subst hw
  clear hW
  have HX2 := Lib.hid hx2
  have HO2 := Lib.hid hO2
  have c1 := hx2.cell1
  have f1 := hx2.free 1
  have c11 := hx2.cell11
  have f11 := hx2.free 11
  have hlt := hx2.lt
  clear hx2 hO2
  have hcv : (convert 89 41 (.slice (some ⟨W.heap.size, 0, none⟩) 1 1)).run Tryz.prog (W.alloc (.cells #[.int .u8 63] 5)) = .ok (.string ⟨#[63]⟩) (W.alloc (.cells #[.int .u8 63] 5)) := one_kind W 63
  go_wp2_with fail
  refine bodyPost_ret (results_none rfl _ _ _) rfl ?_
  exact step_tok Hspec.out rfl (alloc_keeps (HX2.out.setKind _)) ((HO2.out.setCell 1 _).alloc _)
set_option maxHeartbeats 8000000 in
set_option maxRecDepth 1000000 in
theorem tok_one92 (s : ByteArray) (b f i B : Nat) (x : LxS) (w : World) (h : THead s b f i B x w) (hi : i < s.size) (hc : bt s i = 92) :
    Calls Tryz.prog 38 #[.pointer (some ⟨b, 0, none⟩), .bool false] w (Step b f x B (tokStep x (dottedB x.last) (tokOf s i false (dottedB x.last))) w) := by
  have hs := h.env.small
  have Hspec : Hid (tokOf s i false (dottedB x.last) = some ⟨⟨#[92]⟩, none, none, i + 1⟩) := by
    show _ = _
    rw [tok_sign hi (by omega) (by rw [hc]; decide) (fun k => by have := k.1; omega) (fun k => by have := k.1; omega) (by omega) (by rw [hc]; decide), signOf_eq]
    simp [symL, sigL, hc]
  have Hc := Lib.hid hc
  clear hc
  have H := Lib.hid h
  clear h
  go_enter Tryz.func38, Tryz.ntmps38
  go_wp2_with fail
  refine H.out.eof0.mono ?_
  rintro e w' ⟨rfl, n1, rfl⟩
  rw [decide_eq_false (show ¬ s.size ≤ i by omega)]
  go_wp2_with fail
  refine (H.out.peek n1 0 _ rfl hi).mono ?_
  rintro e w' ⟨rfl, n2, rfl⟩
  rw [show bt s (i + 0) = 92 from Hc.out]
  go_wp2_with fail
  refine (H.out.skip n2 hi).mono ?_
  rintro e w' ⟨rfl, n3, hw⟩
  rw [Hc.out]
  have hx2 := ((H.out.dn n3).lx).setPos ((i + 1 : Nat) : Int)
  have hO2 := ((Only.refl b w).dn n3).setCell 9 (.int .i64 ((i + 1 : Nat) : Int))
  obtain ⟨W, hW⟩ : ∃ W, (w.drewN n3).setCell ⟨b, 9, none⟩ (.int .i64 ((i + 1 : Nat) : Int)) = W := ⟨_, rfl⟩
  rw [hW] at hx2 hO2 hw
  replace hw := hw.symm
  subst hw
  clear hW
  have HX2 := Lib.hid hx2
  have HO2 := Lib.hid hO2
  have c1 := hx2.cell1
  have f1 := hx2.free 1
  have c11 := hx2.cell11
  have f11 := hx2.free 11
  have hlt := hx2.lt
  clear hx2 hO2
  have hcv : (convert 89 41 (.slice (some ⟨W.heap.size, 0, none⟩) 1 1)).run Tryz.prog (W.alloc (.cells #[.int .u8 92] 5)) = .ok (.string ⟨#[92]⟩) (W.alloc (.cells #[.int .u8 92] 5)) := one_kind W 92
  go_wp2_with fail
  refine bodyPost_ret (results_none rfl _ _ _) rfl ?_
  exact step_tok Hspec.out rfl (alloc_keeps (HX2.out.setKind _)) ((HO2.out.setCell 1 _).alloc _)
set_option maxHeartbeats 8000000 in
set_option maxRecDepth 1000000 in
theorem tok_one36 (s : ByteArray) (b f i B : Nat) (x : LxS) (w : World) (h : THead s b f i B x w) (hi : i < s.size) (hc : bt s i = 36) :
    Calls Tryz.prog 38 #[.pointer (some ⟨b, 0, none⟩), .bool false] w (Step b f x B (tokStep x (dottedB x.last) (tokOf s i false (dottedB x.last))) w) := by
  have hs := h.env.small
  have Hspec : Hid (tokOf s i false (dottedB x.last) = some ⟨⟨#[36]⟩, none, none, i + 1⟩) := by
    show _ = _
    rw [tok_sign hi (by omega) (by rw [hc]; decide) (fun k => by have := k.1; omega) (fun k => by have := k.1; omega) (by omega) (by rw [hc]; decide), signOf_eq]
    simp [symL, sigL, hc]
  have Hc := Lib.hid hc
  clear hc
  have H := Lib.hid h
  clear h
  go_enter Tryz.func38, Tryz.ntmps38
  go_wp2_with fail
  refine H.out.eof0.mono ?_
  rintro e w' ⟨rfl, n1, rfl⟩
  rw [decide_eq_false (show ¬ s.size ≤ i by omega)]
  go_wp2_with fail
  refine (H.out.peek n1 0 _ rfl hi).mono ?_
  rintro e w' ⟨rfl, n2, rfl⟩
  rw [show bt s (i + 0) = 36 from Hc.out]
  go_wp2_with fail
  refine (H.out.skip n2 hi).mono ?_
  rintro e w' ⟨rfl, n3, hw⟩
  rw [Hc.out]
  have hx2 := ((H.out.dn n3).lx).setPos ((i + 1 : Nat) : Int)
  have hO2 := ((Only.refl b w).dn n3).setCell 9 (.int .i64 ((i + 1 : Nat) : Int))
  obtain ⟨W, hW⟩ : ∃ W, (w.drewN n3).setCell ⟨b, 9, none⟩ (.int .i64 ((i + 1 : Nat) : Int)) = W := ⟨_, rfl⟩
  rw [hW] at hx2 hO2 hw
  replace hw := hw.symm
  subst hw
  clear hW
  have HX2 := Lib.hid hx2
  have HO2 := Lib.hid hO2
  have c1 := hx2.cell1
  have f1 := hx2.free 1
  have c11 := hx2.cell11
  have f11 := hx2.free 11
  have hlt := hx2.lt
  clear hx2 hO2
  have hcv : (convert 89 41 (.slice (some ⟨W.heap.size, 0, none⟩) 1 1)).run Tryz.prog (W.alloc (.cells #[.int .u8 36] 5)) = .ok (.string ⟨#[36]⟩) (W.alloc (.cells #[.int .u8 36] 5)) := one_kind W 36
  go_wp2_with fail
  refine bodyPost_ret (results_none rfl _ _ _) rfl ?_
  exact step_tok Hspec.out rfl (alloc_keeps (HX2.out.setKind _)) ((HO2.out.setCell 1 _).alloc _)
set_option maxHeartbeats 8000000 in
set_option maxRecDepth 1000000 in
theorem tok_eof (s : ByteArray) (b f i B : Nat) (x : LxS) (w : World) (h : THead s b f i B x w) (hi : i = s.size) :
    Calls Tryz.prog 38 #[.pointer (some ⟨b, 0, none⟩), .bool false] w (Step b f x B (tokStep x (dottedB x.last) (tokOf s i false (dottedB x.last))) w) := by
  have Hspec : Hid (tokOf s i false (dottedB x.last) = some ⟨kEof, none, none, i⟩) := by show _ = _; rw [tokOf, if_pos hi]
  have H := Lib.hid h
  clear h
  go_enter Tryz.func38, Tryz.ntmps38
  go_wp2_with fail
  refine H.out.eof0.mono ?_
  rintro e w' ⟨rfl, n1, rfl⟩
  rw [decide_eq_true (show s.size ≤ i by omega)]
  have hx2 := (H.out.dn n1).lx
  have hO2 := (Only.refl b w).dn n1
  obtain ⟨W, hW⟩ : ∃ W, w.drewN n1 = W := ⟨_, rfl⟩
  rw [hW] at hx2 hO2 ⊢
  clear hW
  have c1 := hx2.cell1
  have f1 := hx2.free 1
  go_wp2_with fail
  refine bodyPost_ret (results_none rfl _ _ _) rfl ?_
  have hp := H.out.pos
  exact step_tok Hspec.out (by rw [hp]; rfl) (hx2.setKind _) (hO2.setCell 1 _)
end Go.Proofs.YtmkkeacbabmaeaaGreatDoor
namespace Go.Proofs.YtmkkeacbabmaeaaGreatDoor
open Go.RowKit Go.PlainAid

set_option maxHeartbeats 8000000 in
set_option maxRecDepth 1000000 in
theorem tok_two60_60 (s : ByteArray) (b f i B : Nat) (x : LxS) (w : World) (h : THead s b f i B x w) (hi : i < s.size) (hc : bt s i = 60) (h1 : i + 1 < s.size) (hd : bt s (i + 1) = 60) :
    Calls Tryz.prog 38 #[.pointer (some ⟨b, 0, none⟩), .bool false] w (Step b f x B (tokStep x (dottedB x.last) (tokOf s i false (dottedB x.last))) w) := by
  have hs := h.env.small
  have Hspec : Hid (tokOf s i false (dottedB x.last) = some ⟨⟨#[60, 60]⟩, none, none, i + 2⟩) := by
    show _ = _
    rw [tok_sign hi (by omega) (by rw [hc]; decide) (fun k => by have := k.1; omega) (fun k => by have := k.1; omega) (by omega) (by rw [hc]; decide), signOf_eq]
    simp [symL, hc, hd, h1]
  have Hc := Lib.hid hc
  have Hd := Lib.hid hd
  clear hc hd
  have H := Lib.hid h
  clear h
  go_enter Tryz.func38, Tryz.ntmps38
  go_wp2_with fail
  refine H.out.eof0.mono ?_
  rintro e w' ⟨rfl, n1, rfl⟩
  rw [decide_eq_false (show ¬ s.size ≤ i by omega)]
  go_wp2_with fail
  refine (H.out.peek n1 0 _ rfl hi).mono ?_
  rintro e w' ⟨rfl, n2, rfl⟩
  rw [show bt s (i + 0) = 60 from Hc.out]
  go_wp2_with fail
  refine (H.out.peekIs n2 1 _ 60 rfl (by omega)).mono ?_
  rintro e w' ⟨rfl, n3, rfl⟩
  rw [decide_eq_true (show _ from by have := Hd.out; omega)]
  go_wp2_with fail
  refine (H.out.skipN n3 2 _ rfl (by omega)).mono ?_
  rintro e w' ⟨rfl, hw⟩
  have hx2 := ((H.out.dn n3).lx).setPos ((i + 2 : Nat) : Int)
  have hO2 := ((Only.refl b w).dn n3).setCell 9 (.int .i64 ((i + 2 : Nat) : Int))
  obtain ⟨W, hW⟩ : ∃ W, (w.drewN n3).setCell ⟨b, 9, none⟩ (.int .i64 ((i + 2 : Nat) : Int)) = W := ⟨_, rfl⟩
  rw [hW] at hx2 hO2 hw
  replace hw := hw.symm
  subst hw
  clear hW
  have HX2 := Lib.hid hx2
  have HO2 := Lib.hid hO2
  have c1 := hx2.cell1
  have f1 := hx2.free 1
  have c11 := hx2.cell11
  have f11 := hx2.free 11
  have hlt := hx2.lt
  clear hx2 hO2
  go_wp2_with fail
  refine bodyPost_ret (results_none rfl _ _ _) rfl ?_
  exact step_tok Hspec.out rfl (HX2.out.setKind _) (HO2.out.setCell 1 _)
set_option maxHeartbeats 8000000 in
set_option maxRecDepth 1000000 in
theorem tok_two60_61 (s : ByteArray) (b f i B : Nat) (x : LxS) (w : World) (h : THead s b f i B x w) (hi : i < s.size) (hc : bt s i = 60) (h1 : i + 1 < s.size) (hd : bt s (i + 1) = 61) :
    Calls Tryz.prog 38 #[.pointer (some ⟨b, 0, none⟩), .bool false] w (Step b f x B (tokStep x (dottedB x.last) (tokOf s i false (dottedB x.last))) w) := by
  have hs := h.env.small
  have Hspec : Hid (tokOf s i false (dottedB x.last) = some ⟨⟨#[60, 61]⟩, none, none, i + 2⟩) := by
    show _ = _
    rw [tok_sign hi (by omega) (by rw [hc]; decide) (fun k => by have := k.1; omega) (fun k => by have := k.1; omega) (by omega) (by rw [hc]; decide), signOf_eq]
    simp [symL, hc, hd, h1]
  have Hc := Lib.hid hc
  have Hd := Lib.hid hd
  clear hc hd
  have H := Lib.hid h
  clear h
  go_enter Tryz.func38, Tryz.ntmps38
  go_wp2_with fail
  refine H.out.eof0.mono ?_
  rintro e w' ⟨rfl, n1, rfl⟩
  rw [decide_eq_false (show ¬ s.size ≤ i by omega)]
  go_wp2_with fail
  refine (H.out.peek n1 0 _ rfl hi).mono ?_
  rintro e w' ⟨rfl, n2, rfl⟩
  rw [show bt s (i + 0) = 60 from Hc.out]
  go_wp2_with fail
  refine (H.out.peekIs n2 1 _ 60 rfl (by omega)).mono ?_
  rintro e w' ⟨rfl, n3, rfl⟩
  rw [decide_eq_false (show _ from by have := Hd.out; omega)]
  go_wp2_with fail
  refine (H.out.peekIs n3 1 _ 61 rfl (by omega)).mono ?_
  rintro e w' ⟨rfl, n4, rfl⟩
  rw [decide_eq_true (show _ from by have := Hd.out; omega)]
  go_wp2_with fail
  refine (H.out.skipN n4 2 _ rfl (by omega)).mono ?_
  rintro e w' ⟨rfl, hw⟩
  have hx2 := ((H.out.dn n4).lx).setPos ((i + 2 : Nat) : Int)
  have hO2 := ((Only.refl b w).dn n4).setCell 9 (.int .i64 ((i + 2 : Nat) : Int))
  obtain ⟨W, hW⟩ : ∃ W, (w.drewN n4).setCell ⟨b, 9, none⟩ (.int .i64 ((i + 2 : Nat) : Int)) = W := ⟨_, rfl⟩
  rw [hW] at hx2 hO2 hw
  replace hw := hw.symm
  subst hw
  clear hW
  have HX2 := Lib.hid hx2
  have HO2 := Lib.hid hO2
  have c1 := hx2.cell1
  have f1 := hx2.free 1
  have c11 := hx2.cell11
  have f11 := hx2.free 11
  have hlt := hx2.lt
  clear hx2 hO2
  go_wp2_with fail
  refine bodyPost_ret (results_none rfl _ _ _) rfl ?_
  exact step_tok Hspec.out rfl (HX2.out.setKind _) (HO2.out.setCell 1 _)
set_option maxHeartbeats 8000000 in
set_option maxRecDepth 1000000 in
theorem tok_two60_62 (s : ByteArray) (b f i B : Nat) (x : LxS) (w : World) (h : THead s b f i B x w) (hi : i < s.size) (hc : bt s i = 60) (h1 : i + 1 < s.size) (hd : bt s (i + 1) = 62) :
    Calls Tryz.prog 38 #[.pointer (some ⟨b, 0, none⟩), .bool false] w (Step b f x B (tokStep x (dottedB x.last) (tokOf s i false (dottedB x.last))) w) := by
  have hs := h.env.small
  have Hspec : Hid (tokOf s i false (dottedB x.last) = some ⟨⟨#[60, 62]⟩, none, none, i + 2⟩) := by
    show _ = _
    rw [tok_sign hi (by omega) (by rw [hc]; decide) (fun k => by have := k.1; omega) (fun k => by have := k.1; omega) (by omega) (by rw [hc]; decide), signOf_eq]
    simp [symL, hc, hd, h1]
  have Hc := Lib.hid hc
  have Hd := Lib.hid hd
  clear hc hd
  have H := Lib.hid h
  clear h
  go_enter Tryz.func38, Tryz.ntmps38
  go_wp2_with fail
  refine H.out.eof0.mono ?_
  rintro e w' ⟨rfl, n1, rfl⟩
  rw [decide_eq_false (show ¬ s.size ≤ i by omega)]
  go_wp2_with fail
  refine (H.out.peek n1 0 _ rfl hi).mono ?_
  rintro e w' ⟨rfl, n2, rfl⟩
  rw [show bt s (i + 0) = 60 from Hc.out]
  go_wp2_with fail
  refine (H.out.peekIs n2 1 _ 60 rfl (by omega)).mono ?_
  rintro e w' ⟨rfl, n3, rfl⟩
  rw [decide_eq_false (show _ from by have := Hd.out; omega)]
  go_wp2_with fail
  refine (H.out.peekIs n3 1 _ 61 rfl (by omega)).mono ?_
  rintro e w' ⟨rfl, n4, rfl⟩
  rw [decide_eq_false (show _ from by have := Hd.out; omega)]
  go_wp2_with fail
  refine (H.out.peekIs n4 1 _ 62 rfl (by omega)).mono ?_
  rintro e w' ⟨rfl, n5, rfl⟩
  rw [decide_eq_true (show _ from by have := Hd.out; omega)]
  go_wp2_with fail
  refine (H.out.skipN n5 2 _ rfl (by omega)).mono ?_
  rintro e w' ⟨rfl, hw⟩
  have hx2 := ((H.out.dn n5).lx).setPos ((i + 2 : Nat) : Int)
  have hO2 := ((Only.refl b w).dn n5).setCell 9 (.int .i64 ((i + 2 : Nat) : Int))
  obtain ⟨W, hW⟩ : ∃ W, (w.drewN n5).setCell ⟨b, 9, none⟩ (.int .i64 ((i + 2 : Nat) : Int)) = W := ⟨_, rfl⟩
  rw [hW] at hx2 hO2 hw
  replace hw := hw.symm
  subst hw
  clear hW
  have HX2 := Lib.hid hx2
  have HO2 := Lib.hid hO2
  have c1 := hx2.cell1
  have f1 := hx2.free 1
  have c11 := hx2.cell11
  have f11 := hx2.free 11
  have hlt := hx2.lt
  clear hx2 hO2
  go_wp2_with fail
  refine bodyPost_ret (results_none rfl _ _ _) rfl ?_
  exact step_tok Hspec.out rfl (HX2.out.setKind _) (HO2.out.setCell 1 _)
set_option maxHeartbeats 8000000 in
set_option maxRecDepth 1000000 in
theorem tok_two62_62 (s : ByteArray) (b f i B : Nat) (x : LxS) (w : World) (h : THead s b f i B x w) (hi : i < s.size) (hc : bt s i = 62) (h1 : i + 1 < s.size) (hd : bt s (i + 1) = 62) :
    Calls Tryz.prog 38 #[.pointer (some ⟨b, 0, none⟩), .bool false] w (Step b f x B (tokStep x (dottedB x.last) (tokOf s i false (dottedB x.last))) w) := by
  have hs := h.env.small
  have Hspec : Hid (tokOf s i false (dottedB x.last) = some ⟨⟨#[62, 62]⟩, none, none, i + 2⟩) := by
    show _ = _
    rw [tok_sign hi (by omega) (by rw [hc]; decide) (fun k => by have := k.1; omega) (fun k => by have := k.1; omega) (by omega) (by rw [hc]; decide), signOf_eq]
    simp [symL, hc, hd, h1]
  have Hc := Lib.hid hc
  have Hd := Lib.hid hd
  clear hc hd
  have H := Lib.hid h
  clear h
  go_enter Tryz.func38, Tryz.ntmps38
  go_wp2_with fail
  refine H.out.eof0.mono ?_
  rintro e w' ⟨rfl, n1, rfl⟩
  rw [decide_eq_false (show ¬ s.size ≤ i by omega)]
  go_wp2_with fail
  refine (H.out.peek n1 0 _ rfl hi).mono ?_
  rintro e w' ⟨rfl, n2, rfl⟩
  rw [show bt s (i + 0) = 62 from Hc.out]
  go_wp2_with fail
  refine (H.out.peekIs n2 1 _ 62 rfl (by omega)).mono ?_
  rintro e w' ⟨rfl, n3, rfl⟩
  rw [decide_eq_true (show _ from by have := Hd.out; omega)]
  go_wp2_with fail
  refine (H.out.skipN n3 2 _ rfl (by omega)).mono ?_
  rintro e w' ⟨rfl, hw⟩
  have hx2 := ((H.out.dn n3).lx).setPos ((i + 2 : Nat) : Int)
  have hO2 := ((Only.refl b w).dn n3).setCell 9 (.int .i64 ((i + 2 : Nat) : Int))
  obtain ⟨W, hW⟩ : ∃ W, (w.drewN n3).setCell ⟨b, 9, none⟩ (.int .i64 ((i + 2 : Nat) : Int)) = W := ⟨_, rfl⟩
  rw [hW] at hx2 hO2 hw
  replace hw := hw.symm
  subst hw
  clear hW
  have HX2 := Lib.hid hx2
  have HO2 := Lib.hid hO2
  have c1 := hx2.cell1
  have f1 := hx2.free 1
  have c11 := hx2.cell11
  have f11 := hx2.free 11
  have hlt := hx2.lt
  clear hx2 hO2
  go_wp2_with fail
  refine bodyPost_ret (results_none rfl _ _ _) rfl ?_
  exact step_tok Hspec.out rfl (HX2.out.setKind _) (HO2.out.setCell 1 _)
set_option maxHeartbeats 8000000 in
set_option maxRecDepth 1000000 in
theorem tok_two62_61 (s : ByteArray) (b f i B : Nat) (x : LxS) (w : World) (h : THead s b f i B x w) (hi : i < s.size) (hc : bt s i = 62) (h1 : i + 1 < s.size) (hd : bt s (i + 1) = 61) :
    Calls Tryz.prog 38 #[.pointer (some ⟨b, 0, none⟩), .bool false] w (Step b f x B (tokStep x (dottedB x.last) (tokOf s i false (dottedB x.last))) w) := by
  have hs := h.env.small
  have Hspec : Hid (tokOf s i false (dottedB x.last) = some ⟨⟨#[62, 61]⟩, none, none, i + 2⟩) := by
    show _ = _
    rw [tok_sign hi (by omega) (by rw [hc]; decide) (fun k => by have := k.1; omega) (fun k => by have := k.1; omega) (by omega) (by rw [hc]; decide), signOf_eq]
    simp [symL, hc, hd, h1]
  have Hc := Lib.hid hc
  have Hd := Lib.hid hd
  clear hc hd
  have H := Lib.hid h
  clear h
  go_enter Tryz.func38, Tryz.ntmps38
  go_wp2_with fail
  refine H.out.eof0.mono ?_
  rintro e w' ⟨rfl, n1, rfl⟩
  rw [decide_eq_false (show ¬ s.size ≤ i by omega)]
  go_wp2_with fail
  refine (H.out.peek n1 0 _ rfl hi).mono ?_
  rintro e w' ⟨rfl, n2, rfl⟩
  rw [show bt s (i + 0) = 62 from Hc.out]
  go_wp2_with fail
  refine (H.out.peekIs n2 1 _ 62 rfl (by omega)).mono ?_
  rintro e w' ⟨rfl, n3, rfl⟩
  rw [decide_eq_false (show _ from by have := Hd.out; omega)]
  go_wp2_with fail
  refine (H.out.peekIs n3 1 _ 61 rfl (by omega)).mono ?_
  rintro e w' ⟨rfl, n4, rfl⟩
  rw [decide_eq_true (show _ from by have := Hd.out; omega)]
  go_wp2_with fail
  refine (H.out.skipN n4 2 _ rfl (by omega)).mono ?_
  rintro e w' ⟨rfl, hw⟩
  have hx2 := ((H.out.dn n4).lx).setPos ((i + 2 : Nat) : Int)
  have hO2 := ((Only.refl b w).dn n4).setCell 9 (.int .i64 ((i + 2 : Nat) : Int))
  obtain ⟨W, hW⟩ : ∃ W, (w.drewN n4).setCell ⟨b, 9, none⟩ (.int .i64 ((i + 2 : Nat) : Int)) = W := ⟨_, rfl⟩
  rw [hW] at hx2 hO2 hw
  replace hw := hw.symm
  subst hw
  clear hW
  have HX2 := Lib.hid hx2
  have HO2 := Lib.hid hO2
  have c1 := hx2.cell1
  have f1 := hx2.free 1
  have c11 := hx2.cell11
  have f11 := hx2.free 11
  have hlt := hx2.lt
  clear hx2 hO2
  go_wp2_with fail
  refine bodyPost_ret (results_none rfl _ _ _) rfl ?_
  exact step_tok Hspec.out rfl (HX2.out.setKind _) (HO2.out.setCell 1 _)
set_option maxHeartbeats 8000000 in
set_option maxRecDepth 1000000 in
theorem tok_two45_62 (s : ByteArray) (b f i B : Nat) (x : LxS) (w : World) (h : THead s b f i B x w) (hi : i < s.size) (hc : bt s i = 45) (h1 : i + 1 < s.size) (hd : bt s (i + 1) = 62) :
    Calls Tryz.prog 38 #[.pointer (some ⟨b, 0, none⟩), .bool false] w (Step b f x B (tokStep x (dottedB x.last) (tokOf s i false (dottedB x.last))) w) := by
  have hs := h.env.small
  have Hspec : Hid (tokOf s i false (dottedB x.last) = some ⟨⟨#[45, 62]⟩, none, none, i + 2⟩) := by
    show _ = _
    rw [tok_sign hi (by omega) (by rw [hc]; decide) (fun k => by have := k.1; omega) (fun k => by have := k.1; omega) (by omega) (by rw [hc]; decide), signOf_eq]
    simp [symL, hc, hd, h1]
  have Hc := Lib.hid hc
  have Hd := Lib.hid hd
  clear hc hd
  have H := Lib.hid h
  clear h
  go_enter Tryz.func38, Tryz.ntmps38
  go_wp2_with fail
  refine H.out.eof0.mono ?_
  rintro e w' ⟨rfl, n1, rfl⟩
  rw [decide_eq_false (show ¬ s.size ≤ i by omega)]
  go_wp2_with fail
  refine (H.out.peek n1 0 _ rfl hi).mono ?_
  rintro e w' ⟨rfl, n2, rfl⟩
  rw [show bt s (i + 0) = 45 from Hc.out]
  go_wp2_with fail
  refine (H.out.peekIs n2 1 _ 61 rfl (by omega)).mono ?_
  rintro e w' ⟨rfl, n3, rfl⟩
  rw [decide_eq_false (show _ from by have := Hd.out; omega)]
  go_wp2_with fail
  refine (H.out.peekIs n3 1 _ 62 rfl (by omega)).mono ?_
  rintro e w' ⟨rfl, n4, rfl⟩
  rw [decide_eq_true (show _ from by have := Hd.out; omega)]
  go_wp2_with fail
  refine (H.out.skipN n4 2 _ rfl (by omega)).mono ?_
  rintro e w' ⟨rfl, hw⟩
  have hx2 := ((H.out.dn n4).lx).setPos ((i + 2 : Nat) : Int)
  have hO2 := ((Only.refl b w).dn n4).setCell 9 (.int .i64 ((i + 2 : Nat) : Int))
  obtain ⟨W, hW⟩ : ∃ W, (w.drewN n4).setCell ⟨b, 9, none⟩ (.int .i64 ((i + 2 : Nat) : Int)) = W := ⟨_, rfl⟩
  rw [hW] at hx2 hO2 hw
  replace hw := hw.symm
  subst hw
  clear hW
  have HX2 := Lib.hid hx2
  have HO2 := Lib.hid hO2
  have c1 := hx2.cell1
  have f1 := hx2.free 1
  have c11 := hx2.cell11
  have f11 := hx2.free 11
  have hlt := hx2.lt
  clear hx2 hO2
  go_wp2_with fail
  refine bodyPost_ret (results_none rfl _ _ _) rfl ?_
  exact step_tok Hspec.out rfl (HX2.out.setKind _) (HO2.out.setCell 1 _)
set_option maxHeartbeats 8000000 in
set_option maxRecDepth 1000000 in
theorem tok_two61_62 (s : ByteArray) (b f i B : Nat) (x : LxS) (w : World) (h : THead s b f i B x w) (hi : i < s.size) (hc : bt s i = 61) (h1 : i + 1 < s.size) (hd : bt s (i + 1) = 62) :
    Calls Tryz.prog 38 #[.pointer (some ⟨b, 0, none⟩), .bool false] w (Step b f x B (tokStep x (dottedB x.last) (tokOf s i false (dottedB x.last))) w) := by
  have hs := h.env.small
  have Hspec : Hid (tokOf s i false (dottedB x.last) = some ⟨⟨#[61, 62]⟩, none, none, i + 2⟩) := by
    show _ = _
    rw [tok_sign hi (by omega) (by rw [hc]; decide) (fun k => by have := k.1; omega) (fun k => by have := k.1; omega) (by omega) (by rw [hc]; decide), signOf_eq]
    simp [symL, hc, hd, h1]
  have Hc := Lib.hid hc
  have Hd := Lib.hid hd
  clear hc hd
  have H := Lib.hid h
  clear h
  go_enter Tryz.func38, Tryz.ntmps38
  go_wp2_with fail
  refine H.out.eof0.mono ?_
  rintro e w' ⟨rfl, n1, rfl⟩
  rw [decide_eq_false (show ¬ s.size ≤ i by omega)]
  go_wp2_with fail
  refine (H.out.peek n1 0 _ rfl hi).mono ?_
  rintro e w' ⟨rfl, n2, rfl⟩
  rw [show bt s (i + 0) = 61 from Hc.out]
  go_wp2_with fail
  refine (H.out.peekIs n2 1 _ 62 rfl (by omega)).mono ?_
  rintro e w' ⟨rfl, n3, rfl⟩
  rw [decide_eq_true (show _ from by have := Hd.out; omega)]
  go_wp2_with fail
  refine (H.out.skipN n3 2 _ rfl (by omega)).mono ?_
  rintro e w' ⟨rfl, hw⟩
  have hx2 := ((H.out.dn n3).lx).setPos ((i + 2 : Nat) : Int)
  have hO2 := ((Only.refl b w).dn n3).setCell 9 (.int .i64 ((i + 2 : Nat) : Int))
  obtain ⟨W, hW⟩ : ∃ W, (w.drewN n3).setCell ⟨b, 9, none⟩ (.int .i64 ((i + 2 : Nat) : Int)) = W := ⟨_, rfl⟩
  rw [hW] at hx2 hO2 hw
  replace hw := hw.symm
  subst hw
  clear hW
  have HX2 := Lib.hid hx2
  have HO2 := Lib.hid hO2
  have c1 := hx2.cell1
  have f1 := hx2.free 1
  have c11 := hx2.cell11
  have f11 := hx2.free 11
  have hlt := hx2.lt
  clear hx2 hO2
  go_wp2_with fail
  refine bodyPost_ret (results_none rfl _ _ _) rfl ?_
  exact step_tok Hspec.out rfl (HX2.out.setKind _) (HO2.out.setCell 1 _)
set_option maxHeartbeats 8000000 in
set_option maxRecDepth 1000000 in
theorem tok_two124_62 (s : ByteArray) (b f i B : Nat) (x : LxS) (w : World) (h : THead s b f i B x w) (hi : i < s.size) (hc : bt s i = 124) (h1 : i + 1 < s.size) (hd : bt s (i + 1) = 62) :
    Calls Tryz.prog 38 #[.pointer (some ⟨b, 0, none⟩), .bool false] w (Step b f x B (tokStep x (dottedB x.last) (tokOf s i false (dottedB x.last))) w) := by
  have hs := h.env.small
  have Hspec : Hid (tokOf s i false (dottedB x.last) = some ⟨⟨#[124, 62]⟩, none, none, i + 2⟩) := by
    show _ = _
    rw [tok_sign hi (by omega) (by rw [hc]; decide) (fun k => by have := k.1; omega) (fun k => by have := k.1; omega) (by omega) (by rw [hc]; decide), signOf_eq]
    simp [symL, hc, hd, h1]
  have Hc := Lib.hid hc
  have Hd := Lib.hid hd
  clear hc hd
  have H := Lib.hid h
  clear h
  go_enter Tryz.func38, Tryz.ntmps38
  go_wp2_with fail
  refine H.out.eof0.mono ?_
  rintro e w' ⟨rfl, n1, rfl⟩
  rw [decide_eq_false (show ¬ s.size ≤ i by omega)]
  go_wp2_with fail
  refine (H.out.peek n1 0 _ rfl hi).mono ?_
  rintro e w' ⟨rfl, n2, rfl⟩
  rw [show bt s (i + 0) = 124 from Hc.out]
  go_wp2_with fail
  refine (H.out.peekIs n2 1 _ 62 rfl (by omega)).mono ?_
  rintro e w' ⟨rfl, n3, rfl⟩
  rw [decide_eq_true (show _ from by have := Hd.out; omega)]
  go_wp2_with fail
  refine (H.out.skipN n3 2 _ rfl (by omega)).mono ?_
  rintro e w' ⟨rfl, hw⟩
  have hx2 := ((H.out.dn n3).lx).setPos ((i + 2 : Nat) : Int)
  have hO2 := ((Only.refl b w).dn n3).setCell 9 (.int .i64 ((i + 2 : Nat) : Int))
  obtain ⟨W, hW⟩ : ∃ W, (w.drewN n3).setCell ⟨b, 9, none⟩ (.int .i64 ((i + 2 : Nat) : Int)) = W := ⟨_, rfl⟩
  rw [hW] at hx2 hO2 hw
  replace hw := hw.symm
  subst hw
  clear hW
  have HX2 := Lib.hid hx2
  have HO2 := Lib.hid hO2
  have c1 := hx2.cell1
  have f1 := hx2.free 1
  have c11 := hx2.cell11
  have f11 := hx2.free 11
  have hlt := hx2.lt
  clear hx2 hO2
  go_wp2_with fail
  refine bodyPost_ret (results_none rfl _ _ _) rfl ?_
  exact step_tok Hspec.out rfl (HX2.out.setKind _) (HO2.out.setCell 1 _)
set_option maxHeartbeats 8000000 in
set_option maxRecDepth 1000000 in
theorem tok_two124_124 (s : ByteArray) (b f i B : Nat) (x : LxS) (w : World) (h : THead s b f i B x w) (hi : i < s.size) (hc : bt s i = 124) (h1 : i + 1 < s.size) (hd : bt s (i + 1) = 124) :
    Calls Tryz.prog 38 #[.pointer (some ⟨b, 0, none⟩), .bool false] w (Step b f x B (tokStep x (dottedB x.last) (tokOf s i false (dottedB x.last))) w) := by
  have hs := h.env.small
  have Hspec : Hid (tokOf s i false (dottedB x.last) = some ⟨⟨#[124, 124]⟩, none, none, i + 2⟩) := by
    show _ = _
    rw [tok_sign hi (by omega) (by rw [hc]; decide) (fun k => by have := k.1; omega) (fun k => by have := k.1; omega) (by omega) (by rw [hc]; decide), signOf_eq]
    simp [symL, hc, hd, h1]
  have Hc := Lib.hid hc
  have Hd := Lib.hid hd
  clear hc hd
  have H := Lib.hid h
  clear h
  go_enter Tryz.func38, Tryz.ntmps38
  go_wp2_with fail
  refine H.out.eof0.mono ?_
  rintro e w' ⟨rfl, n1, rfl⟩
  rw [decide_eq_false (show ¬ s.size ≤ i by omega)]
  go_wp2_with fail
  refine (H.out.peek n1 0 _ rfl hi).mono ?_
  rintro e w' ⟨rfl, n2, rfl⟩
  rw [show bt s (i + 0) = 124 from Hc.out]
  go_wp2_with fail
  refine (H.out.peekIs n2 1 _ 62 rfl (by omega)).mono ?_
  rintro e w' ⟨rfl, n3, rfl⟩
  rw [decide_eq_false (show _ from by have := Hd.out; omega)]
  go_wp2_with fail
  refine (H.out.peekIs n3 1 _ 124 rfl (by omega)).mono ?_
  rintro e w' ⟨rfl, n4, rfl⟩
  rw [decide_eq_true (show _ from by have := Hd.out; omega)]
  go_wp2_with fail
  refine (H.out.skipN n4 2 _ rfl (by omega)).mono ?_
  rintro e w' ⟨rfl, hw⟩
  have hx2 := ((H.out.dn n4).lx).setPos ((i + 2 : Nat) : Int)
  have hO2 := ((Only.refl b w).dn n4).setCell 9 (.int .i64 ((i + 2 : Nat) : Int))
  obtain ⟨W, hW⟩ : ∃ W, (w.drewN n4).setCell ⟨b, 9, none⟩ (.int .i64 ((i + 2 : Nat) : Int)) = W := ⟨_, rfl⟩
  rw [hW] at hx2 hO2 hw
  replace hw := hw.symm
  subst hw
  clear hW
  have HX2 := Lib.hid hx2
  have HO2 := Lib.hid hO2
  have c1 := hx2.cell1
  have f1 := hx2.free 1
  have c11 := hx2.cell11
  have f11 := hx2.free 11
  have hlt := hx2.lt
  clear hx2 hO2
  go_wp2_with fail
  refine bodyPost_ret (results_none rfl _ _ _) rfl ?_
  exact step_tok Hspec.out rfl (HX2.out.setKind _) (HO2.out.setCell 1 _)
set_option maxHeartbeats 8000000 in
set_option maxRecDepth 1000000 in
theorem tok_two33_61 (s : ByteArray) (b f i B : Nat) (x : LxS) (w : World) (h : THead s b f i B x w) (hi : i < s.size) (hc : bt s i = 33) (h1 : i + 1 < s.size) (hd : bt s (i + 1) = 61) :
    Calls Tryz.prog 38 #[.pointer (some ⟨b, 0, none⟩), .bool false] w (Step b f x B (tokStep x (dottedB x.last) (tokOf s i false (dottedB x.last))) w) := by
  have hs := h.env.small
  have Hspec : Hid (tokOf s i false (dottedB x.last) = some ⟨⟨#[33, 61]⟩, none, none, i + 2⟩) := by
    show _ = _
    rw [tok_sign hi (by omega) (by rw [hc]; decide) (fun k => by have := k.1; omega) (fun k => by have := k.1; omega) (by omega) (by rw [hc]; decide), signOf_eq]
    simp [symL, hc, hd, h1]
  have Hc := Lib.hid hc
  have Hd := Lib.hid hd
  clear hc hd
  have H := Lib.hid h
  clear h
  go_enter Tryz.func38, Tryz.ntmps38
  go_wp2_with fail
  refine H.out.eof0.mono ?_
  rintro e w' ⟨rfl, n1, rfl⟩
  rw [decide_eq_false (show ¬ s.size ≤ i by omega)]
  go_wp2_with fail
  refine (H.out.peek n1 0 _ rfl hi).mono ?_
  rintro e w' ⟨rfl, n2, rfl⟩
  rw [show bt s (i + 0) = 33 from Hc.out]
  go_wp2_with fail
  refine (H.out.peekIs n2 1 _ 61 rfl (by omega)).mono ?_
  rintro e w' ⟨rfl, n3, rfl⟩
  rw [decide_eq_true (show _ from by have := Hd.out; omega)]
  go_wp2_with fail
  refine (H.out.skipN n3 2 _ rfl (by omega)).mono ?_
  rintro e w' ⟨rfl, hw⟩
  have hx2 := ((H.out.dn n3).lx).setPos ((i + 2 : Nat) : Int)
  have hO2 := ((Only.refl b w).dn n3).setCell 9 (.int .i64 ((i + 2 : Nat) : Int))
  obtain ⟨W, hW⟩ : ∃ W, (w.drewN n3).setCell ⟨b, 9, none⟩ (.int .i64 ((i + 2 : Nat) : Int)) = W := ⟨_, rfl⟩
  rw [hW] at hx2 hO2 hw
  replace hw := hw.symm
  subst hw
  clear hW
  have HX2 := Lib.hid hx2
  have HO2 := Lib.hid hO2
  have c1 := hx2.cell1
  have f1 := hx2.free 1
  have c11 := hx2.cell11
  have f11 := hx2.free 11
  have hlt := hx2.lt
  clear hx2 hO2
  go_wp2_with fail
  refine bodyPost_ret (results_none rfl _ _ _) rfl ?_
  exact step_tok Hspec.out rfl (HX2.out.setKind _) (HO2.out.setCell 1 _)
set_option maxHeartbeats 8000000 in
set_option maxRecDepth 1000000 in
theorem tok_two64_64 (s : ByteArray) (b f i B : Nat) (x : LxS) (w : World) (h : THead s b f i B x w) (hi : i < s.size) (hc : bt s i = 64) (h1 : i + 1 < s.size) (hd : bt s (i + 1) = 64) :
    Calls Tryz.prog 38 #[.pointer (some ⟨b, 0, none⟩), .bool false] w (Step b f x B (tokStep x (dottedB x.last) (tokOf s i false (dottedB x.last))) w) := by
  have hs := h.env.small
  have Hspec : Hid (tokOf s i false (dottedB x.last) = some ⟨⟨#[64, 64]⟩, none, none, i + 2⟩) := by
    show _ = _
    rw [tok_sign hi (by omega) (by rw [hc]; decide) (fun k => by have := k.1; omega) (fun k => by have := k.2.2; rw [hd] at this; exact absurd this (by decide)) (by omega) (by rw [hc]; decide), signOf_eq]
    simp [symL, hc, hd, h1]
  have Hc := Lib.hid hc
  have Hd := Lib.hid hd
  clear hc hd
  have H := Lib.hid h
  clear h
  go_enter Tryz.func38, Tryz.ntmps38
  go_wp2_with fail
  refine H.out.eof0.mono ?_
  rintro e w' ⟨rfl, n1, rfl⟩
  rw [decide_eq_false (show ¬ s.size ≤ i by omega)]
  go_wp2_with fail
  refine (H.out.peek n1 0 _ rfl hi).mono ?_
  rintro e w' ⟨rfl, n2, rfl⟩
  rw [show bt s (i + 0) = 64 from Hc.out]
  go_wp2_with fail
  refine (H.out.peekIs n2 1 _ 64 rfl (by omega)).mono ?_
  rintro e w' ⟨rfl, n3, rfl⟩
  rw [decide_eq_true (show _ from by have := Hd.out; omega)]
  go_wp2_with fail
  refine (H.out.skipN n3 2 _ rfl (by omega)).mono ?_
  rintro e w' ⟨rfl, hw⟩
  have hx2 := ((H.out.dn n3).lx).setPos ((i + 2 : Nat) : Int)
  have hO2 := ((Only.refl b w).dn n3).setCell 9 (.int .i64 ((i + 2 : Nat) : Int))
  obtain ⟨W, hW⟩ : ∃ W, (w.drewN n3).setCell ⟨b, 9, none⟩ (.int .i64 ((i + 2 : Nat) : Int)) = W := ⟨_, rfl⟩
  rw [hW] at hx2 hO2 hw
  replace hw := hw.symm
  subst hw
  clear hW
  have HX2 := Lib.hid hx2
  have HO2 := Lib.hid hO2
  have c1 := hx2.cell1
  have f1 := hx2.free 1
  have c11 := hx2.cell11
  have f11 := hx2.free 11
  have hlt := hx2.lt
  clear hx2 hO2
  go_wp2_with fail
  refine bodyPost_ret (results_none rfl _ _ _) rfl ?_
  exact step_tok Hspec.out rfl (HX2.out.setKind _) (HO2.out.setCell 1 _)
end Go.Proofs.YtmkkeacbabmaeaaGreatDoor
namespace Go.Proofs.YtmkkeacbabmaeaaGreatDoor
open Go.RowKit Go.PlainAid

set_option maxHeartbeats 8000000 in
set_option maxRecDepth 1000000 in
theorem tok_lone60 (s : ByteArray) (b f i B : Nat) (x : LxS) (w : World) (h : THead s b f i B x w) (hi : i < s.size) (hc : bt s i = 60) (h60 : ¬ (i + 1 < s.size ∧ bt s (i + 1) = 60)) (h61 : ¬ (i + 1 < s.size ∧ bt s (i + 1) = 61)) (h62 : ¬ (i + 1 < s.size ∧ bt s (i + 1) = 62)) :
    Calls Tryz.prog 38 #[.pointer (some ⟨b, 0, none⟩), .bool false] w (Step b f x B (tokStep x (dottedB x.last) (tokOf s i false (dottedB x.last))) w) := by
  have hs := h.env.small
  have Hspec : Hid (tokOf s i false (dottedB x.last) = some ⟨⟨#[60]⟩, none, none, i + 1⟩) := by
    show _ = _
    rw [tok_sign hi (by omega) (by rw [hc]; decide) (fun k => by have := k.1; omega) (fun k => by have := k.1; omega) (by omega) (by rw [hc]; decide), signOf_eq]
    simp [symL, sigL, hc, h60, h61, h62, -not_and]
  have Hc := Lib.hid hc
  have H60 := Lib.hid h60
  have H61 := Lib.hid h61
  have H62 := Lib.hid h62
  clear hc h60 h61 h62
  have H := Lib.hid h
  clear h
  go_enter Tryz.func38, Tryz.ntmps38
  go_wp2_with fail
  refine H.out.eof0.mono ?_
  rintro e w' ⟨rfl, n1, rfl⟩
  rw [decide_eq_false (show ¬ s.size ≤ i by omega)]
  go_wp2_with fail
  refine (H.out.peek n1 0 _ rfl hi).mono ?_
  rintro e w' ⟨rfl, n2, rfl⟩
  rw [show bt s (i + 0) = 60 from Hc.out]
  go_wp2_with fail
  refine (H.out.peekIs n2 1 _ 60 rfl (by omega)).mono ?_
  rintro e w' ⟨rfl, n3, rfl⟩
  rw [decide_eq_false (H60.out)]
  go_wp2_with fail
  refine (H.out.peekIs n3 1 _ 61 rfl (by omega)).mono ?_
  rintro e w' ⟨rfl, n4, rfl⟩
  rw [decide_eq_false (H61.out)]
  go_wp2_with fail
  refine (H.out.peekIs n4 1 _ 62 rfl (by omega)).mono ?_
  rintro e w' ⟨rfl, n5, rfl⟩
  rw [decide_eq_false (H62.out)]
  go_wp2_with fail
  refine (H.out.skip n5 hi).mono ?_
  rintro e w' ⟨rfl, n6, hw⟩
  have hx2 := ((H.out.dn n6).lx).setPos ((i + 1 : Nat) : Int)
  have hO2 := ((Only.refl b w).dn n6).setCell 9 (.int .i64 ((i + 1 : Nat) : Int))
  obtain ⟨W, hW⟩ : ∃ W, (w.drewN n6).setCell ⟨b, 9, none⟩ (.int .i64 ((i + 1 : Nat) : Int)) = W := ⟨_, rfl⟩
  rw [hW] at hx2 hO2 hw
  replace hw := hw.symm
  subst hw
  clear hW
  have HX2 := Lib.hid hx2
  have HO2 := Lib.hid hO2
  have c1 := hx2.cell1
  have f1 := hx2.free 1
  have c11 := hx2.cell11
  have f11 := hx2.free 11
  have hlt := hx2.lt
  clear hx2 hO2
  go_wp2_with fail
  refine bodyPost_ret (results_none rfl _ _ _) rfl ?_
  exact step_tok Hspec.out rfl (HX2.out.setKind _) (HO2.out.setCell 1 _)
set_option maxHeartbeats 8000000 in
set_option maxRecDepth 1000000 in
theorem tok_lone62 (s : ByteArray) (b f i B : Nat) (x : LxS) (w : World) (h : THead s b f i B x w) (hi : i < s.size) (hc : bt s i = 62) (h62 : ¬ (i + 1 < s.size ∧ bt s (i + 1) = 62)) (h61 : ¬ (i + 1 < s.size ∧ bt s (i + 1) = 61)) :
    Calls Tryz.prog 38 #[.pointer (some ⟨b, 0, none⟩), .bool false] w (Step b f x B (tokStep x (dottedB x.last) (tokOf s i false (dottedB x.last))) w) := by
  have hs := h.env.small
  have Hspec : Hid (tokOf s i false (dottedB x.last) = some ⟨⟨#[62]⟩, none, none, i + 1⟩) := by
    show _ = _
    rw [tok_sign hi (by omega) (by rw [hc]; decide) (fun k => by have := k.1; omega) (fun k => by have := k.1; omega) (by omega) (by rw [hc]; decide), signOf_eq]
    simp [symL, sigL, hc, h62, h61, -not_and]
  have Hc := Lib.hid hc
  have H62 := Lib.hid h62
  have H61 := Lib.hid h61
  clear hc h62 h61
  have H := Lib.hid h
  clear h
  go_enter Tryz.func38, Tryz.ntmps38
  go_wp2_with fail
  refine H.out.eof0.mono ?_
  rintro e w' ⟨rfl, n1, rfl⟩
  rw [decide_eq_false (show ¬ s.size ≤ i by omega)]
  go_wp2_with fail
  refine (H.out.peek n1 0 _ rfl hi).mono ?_
  rintro e w' ⟨rfl, n2, rfl⟩
  rw [show bt s (i + 0) = 62 from Hc.out]
  go_wp2_with fail
  refine (H.out.peekIs n2 1 _ 62 rfl (by omega)).mono ?_
  rintro e w' ⟨rfl, n3, rfl⟩
  rw [decide_eq_false (H62.out)]
  go_wp2_with fail
  refine (H.out.peekIs n3 1 _ 61 rfl (by omega)).mono ?_
  rintro e w' ⟨rfl, n4, rfl⟩
  rw [decide_eq_false (H61.out)]
  go_wp2_with fail
  refine (H.out.skip n4 hi).mono ?_
  rintro e w' ⟨rfl, n5, hw⟩
  have hx2 := ((H.out.dn n5).lx).setPos ((i + 1 : Nat) : Int)
  have hO2 := ((Only.refl b w).dn n5).setCell 9 (.int .i64 ((i + 1 : Nat) : Int))
  obtain ⟨W, hW⟩ : ∃ W, (w.drewN n5).setCell ⟨b, 9, none⟩ (.int .i64 ((i + 1 : Nat) : Int)) = W := ⟨_, rfl⟩
  rw [hW] at hx2 hO2 hw
  replace hw := hw.symm
  subst hw
  clear hW
  have HX2 := Lib.hid hx2
  have HO2 := Lib.hid hO2
  have c1 := hx2.cell1
  have f1 := hx2.free 1
  have c11 := hx2.cell11
  have f11 := hx2.free 11
  have hlt := hx2.lt
  clear hx2 hO2
  go_wp2_with fail
  refine bodyPost_ret (results_none rfl _ _ _) rfl ?_
  exact step_tok Hspec.out rfl (HX2.out.setKind _) (HO2.out.setCell 1 _)
set_option maxHeartbeats 8000000 in
set_option maxRecDepth 1000000 in
theorem tok_lone43 (s : ByteArray) (b f i B : Nat) (x : LxS) (w : World) (h : THead s b f i B x w) (hi : i < s.size) (hc : bt s i = 43) (h61 : ¬ (i + 1 < s.size ∧ bt s (i + 1) = 61)) :
    Calls Tryz.prog 38 #[.pointer (some ⟨b, 0, none⟩), .bool false] w (Step b f x B (tokStep x (dottedB x.last) (tokOf s i false (dottedB x.last))) w) := by
  have hs := h.env.small
  have Hspec : Hid (tokOf s i false (dottedB x.last) = some ⟨⟨#[43]⟩, none, none, i + 1⟩) := by
    show _ = _
    rw [tok_sign hi (by omega) (by rw [hc]; decide) (fun k => by have := k.1; omega) (fun k => by have := k.1; omega) (by omega) (by rw [hc]; decide), signOf_eq]
    simp [symL, sigL, hc, -not_and]
  have Hc := Lib.hid hc
  have H61 := Lib.hid h61
  clear hc h61
  have H := Lib.hid h
  clear h
  go_enter Tryz.func38, Tryz.ntmps38
  go_wp2_with fail
  refine H.out.eof0.mono ?_
  rintro e w' ⟨rfl, n1, rfl⟩
  rw [decide_eq_false (show ¬ s.size ≤ i by omega)]
  go_wp2_with fail
  refine (H.out.peek n1 0 _ rfl hi).mono ?_
  rintro e w' ⟨rfl, n2, rfl⟩
  rw [show bt s (i + 0) = 43 from Hc.out]
  go_wp2_with fail
  refine (H.out.peekIs n2 1 _ 61 rfl (by omega)).mono ?_
  rintro e w' ⟨rfl, n3, rfl⟩
  rw [decide_eq_false (H61.out)]
  go_wp2_with fail
  refine (H.out.skip n3 hi).mono ?_
  rintro e w' ⟨rfl, n4, hw⟩
  have hx2 := ((H.out.dn n4).lx).setPos ((i + 1 : Nat) : Int)
  have hO2 := ((Only.refl b w).dn n4).setCell 9 (.int .i64 ((i + 1 : Nat) : Int))
  obtain ⟨W, hW⟩ : ∃ W, (w.drewN n4).setCell ⟨b, 9, none⟩ (.int .i64 ((i + 1 : Nat) : Int)) = W := ⟨_, rfl⟩
  rw [hW] at hx2 hO2 hw
  replace hw := hw.symm
  subst hw
  clear hW
  have HX2 := Lib.hid hx2
  have HO2 := Lib.hid hO2
  have c1 := hx2.cell1
  have f1 := hx2.free 1
  have c11 := hx2.cell11
  have f11 := hx2.free 11
  have hlt := hx2.lt
  clear hx2 hO2
  go_wp2_with fail
  refine bodyPost_ret (results_none rfl _ _ _) rfl ?_
  exact step_tok Hspec.out rfl (HX2.out.setKind _) (HO2.out.setCell 1 _)
set_option maxHeartbeats 8000000 in
set_option maxRecDepth 1000000 in
theorem tok_lone45 (s : ByteArray) (b f i B : Nat) (x : LxS) (w : World) (h : THead s b f i B x w) (hi : i < s.size) (hc : bt s i = 45) (h61 : ¬ (i + 1 < s.size ∧ bt s (i + 1) = 61)) (h62 : ¬ (i + 1 < s.size ∧ bt s (i + 1) = 62)) :
    Calls Tryz.prog 38 #[.pointer (some ⟨b, 0, none⟩), .bool false] w (Step b f x B (tokStep x (dottedB x.last) (tokOf s i false (dottedB x.last))) w) := by
  have hs := h.env.small
  have Hspec : Hid (tokOf s i false (dottedB x.last) = some ⟨⟨#[45]⟩, none, none, i + 1⟩) := by
    show _ = _
    rw [tok_sign hi (by omega) (by rw [hc]; decide) (fun k => by have := k.1; omega) (fun k => by have := k.1; omega) (by omega) (by rw [hc]; decide), signOf_eq]
    simp [symL, sigL, hc, h62, -not_and]
  have Hc := Lib.hid hc
  have H61 := Lib.hid h61
  have H62 := Lib.hid h62
  clear hc h61 h62
  have H := Lib.hid h
  clear h
  go_enter Tryz.func38, Tryz.ntmps38
  go_wp2_with fail
  refine H.out.eof0.mono ?_
  rintro e w' ⟨rfl, n1, rfl⟩
  rw [decide_eq_false (show ¬ s.size ≤ i by omega)]
  go_wp2_with fail
  refine (H.out.peek n1 0 _ rfl hi).mono ?_
  rintro e w' ⟨rfl, n2, rfl⟩
  rw [show bt s (i + 0) = 45 from Hc.out]
  go_wp2_with fail
  refine (H.out.peekIs n2 1 _ 61 rfl (by omega)).mono ?_
  rintro e w' ⟨rfl, n3, rfl⟩
  rw [decide_eq_false (H61.out)]
  go_wp2_with fail
  refine (H.out.peekIs n3 1 _ 62 rfl (by omega)).mono ?_
  rintro e w' ⟨rfl, n4, rfl⟩
  rw [decide_eq_false (H62.out)]
  go_wp2_with fail
  refine (H.out.skip n4 hi).mono ?_
  rintro e w' ⟨rfl, n5, hw⟩
  have hx2 := ((H.out.dn n5).lx).setPos ((i + 1 : Nat) : Int)
  have hO2 := ((Only.refl b w).dn n5).setCell 9 (.int .i64 ((i + 1 : Nat) : Int))
  obtain ⟨W, hW⟩ : ∃ W, (w.drewN n5).setCell ⟨b, 9, none⟩ (.int .i64 ((i + 1 : Nat) : Int)) = W := ⟨_, rfl⟩
  rw [hW] at hx2 hO2 hw
  replace hw := hw.symm
  subst hw
  clear hW
  have HX2 := Lib.hid hx2
  have HO2 := Lib.hid hO2
  have c1 := hx2.cell1
  have f1 := hx2.free 1
  have c11 := hx2.cell11
  have f11 := hx2.free 11
  have hlt := hx2.lt
  clear hx2 hO2
  go_wp2_with fail
  refine bodyPost_ret (results_none rfl _ _ _) rfl ?_
  exact step_tok Hspec.out rfl (HX2.out.setKind _) (HO2.out.setCell 1 _)
set_option maxHeartbeats 8000000 in
set_option maxRecDepth 1000000 in
theorem tok_lone61 (s : ByteArray) (b f i B : Nat) (x : LxS) (w : World) (h : THead s b f i B x w) (hi : i < s.size) (hc : bt s i = 61) (h62 : ¬ (i + 1 < s.size ∧ bt s (i + 1) = 62)) :
    Calls Tryz.prog 38 #[.pointer (some ⟨b, 0, none⟩), .bool false] w (Step b f x B (tokStep x (dottedB x.last) (tokOf s i false (dottedB x.last))) w) := by
  have hs := h.env.small
  have Hspec : Hid (tokOf s i false (dottedB x.last) = some ⟨⟨#[61]⟩, none, none, i + 1⟩) := by
    show _ = _
    rw [tok_sign hi (by omega) (by rw [hc]; decide) (fun k => by have := k.1; omega) (fun k => by have := k.1; omega) (by omega) (by rw [hc]; decide), signOf_eq]
    simp [symL, sigL, hc, h62, -not_and]
  have Hc := Lib.hid hc
  have H62 := Lib.hid h62
  clear hc h62
  have H := Lib.hid h
  clear h
  go_enter Tryz.func38, Tryz.ntmps38
  go_wp2_with fail
  refine H.out.eof0.mono ?_
  rintro e w' ⟨rfl, n1, rfl⟩
  rw [decide_eq_false (show ¬ s.size ≤ i by omega)]
  go_wp2_with fail
  refine (H.out.peek n1 0 _ rfl hi).mono ?_
  rintro e w' ⟨rfl, n2, rfl⟩
  rw [show bt s (i + 0) = 61 from Hc.out]
  go_wp2_with fail
  refine (H.out.peekIs n2 1 _ 62 rfl (by omega)).mono ?_
  rintro e w' ⟨rfl, n3, rfl⟩
  rw [decide_eq_false (H62.out)]
  go_wp2_with fail
  refine (H.out.skip n3 hi).mono ?_
  rintro e w' ⟨rfl, n4, hw⟩
  have hx2 := ((H.out.dn n4).lx).setPos ((i + 1 : Nat) : Int)
  have hO2 := ((Only.refl b w).dn n4).setCell 9 (.int .i64 ((i + 1 : Nat) : Int))
  obtain ⟨W, hW⟩ : ∃ W, (w.drewN n4).setCell ⟨b, 9, none⟩ (.int .i64 ((i + 1 : Nat) : Int)) = W := ⟨_, rfl⟩
  rw [hW] at hx2 hO2 hw
  replace hw := hw.symm
  subst hw
  clear hW
  have HX2 := Lib.hid hx2
  have HO2 := Lib.hid hO2
  have c1 := hx2.cell1
  have f1 := hx2.free 1
  have c11 := hx2.cell11
  have f11 := hx2.free 11
  have hlt := hx2.lt
  clear hx2 hO2
  go_wp2_with fail
  refine bodyPost_ret (results_none rfl _ _ _) rfl ?_
  exact step_tok Hspec.out rfl (HX2.out.setKind _) (HO2.out.setCell 1 _)
set_option maxHeartbeats 8000000 in
set_option maxRecDepth 1000000 in
theorem tok_lone124 (s : ByteArray) (b f i B : Nat) (x : LxS) (w : World) (h : THead s b f i B x w) (hi : i < s.size) (hc : bt s i = 124) (h62 : ¬ (i + 1 < s.size ∧ bt s (i + 1) = 62)) (h124 : ¬ (i + 1 < s.size ∧ bt s (i + 1) = 124)) :
    Calls Tryz.prog 38 #[.pointer (some ⟨b, 0, none⟩), .bool false] w (Step b f x B (tokStep x (dottedB x.last) (tokOf s i false (dottedB x.last))) w) := by
  have hs := h.env.small
  have Hspec : Hid (tokOf s i false (dottedB x.last) = some ⟨⟨#[124]⟩, none, none, i + 1⟩) := by
    show _ = _
    rw [tok_sign hi (by omega) (by rw [hc]; decide) (fun k => by have := k.1; omega) (fun k => by have := k.1; omega) (by omega) (by rw [hc]; decide), signOf_eq]
    simp [symL, sigL, hc, h62, h124, -not_and]
  have Hc := Lib.hid hc
  have H62 := Lib.hid h62
  have H124 := Lib.hid h124
  clear hc h62 h124
  have H := Lib.hid h
  clear h
  go_enter Tryz.func38, Tryz.ntmps38
  go_wp2_with fail
  refine H.out.eof0.mono ?_
  rintro e w' ⟨rfl, n1, rfl⟩
  rw [decide_eq_false (show ¬ s.size ≤ i by omega)]
  go_wp2_with fail
  refine (H.out.peek n1 0 _ rfl hi).mono ?_
  rintro e w' ⟨rfl, n2, rfl⟩
  rw [show bt s (i + 0) = 124 from Hc.out]
  go_wp2_with fail
  refine (H.out.peekIs n2 1 _ 62 rfl (by omega)).mono ?_
  rintro e w' ⟨rfl, n3, rfl⟩
  rw [decide_eq_false (H62.out)]
  go_wp2_with fail
  refine (H.out.peekIs n3 1 _ 124 rfl (by omega)).mono ?_
  rintro e w' ⟨rfl, n4, rfl⟩
  rw [decide_eq_false (H124.out)]
  go_wp2_with fail
  refine (H.out.skip n4 hi).mono ?_
  rintro e w' ⟨rfl, n5, hw⟩
  have hx2 := ((H.out.dn n5).lx).setPos ((i + 1 : Nat) : Int)
  have hO2 := ((Only.refl b w).dn n5).setCell 9 (.int .i64 ((i + 1 : Nat) : Int))
  obtain ⟨W, hW⟩ : ∃ W, (w.drewN n5).setCell ⟨b, 9, none⟩ (.int .i64 ((i + 1 : Nat) : Int)) = W := ⟨_, rfl⟩
  rw [hW] at hx2 hO2 hw
  replace hw := hw.symm
  subst hw
  clear hW
  have HX2 := Lib.hid hx2
  have HO2 := Lib.hid hO2
  have c1 := hx2.cell1
  have f1 := hx2.free 1
  have c11 := hx2.cell11
  have f11 := hx2.free 11
  have hlt := hx2.lt
  clear hx2 hO2
  go_wp2_with fail
  refine bodyPost_ret (results_none rfl _ _ _) rfl ?_
  exact step_tok Hspec.out rfl (HX2.out.setKind _) (HO2.out.setCell 1 _)
set_option maxHeartbeats 8000000 in
set_option maxRecDepth 1000000 in
theorem tok_at_end (s : ByteArray) (b f i B : Nat) (x : LxS) (w : World) (h : THead s b f i B x w) (hi : i < s.size) (hc : bt s i = 64) (h1 : ¬ i + 1 < s.size) :
    Calls Tryz.prog 38 #[.pointer (some ⟨b, 0, none⟩), .bool false] w (Step b f x B (tokStep x (dottedB x.last) (tokOf s i false (dottedB x.last))) w) := by
  have hs := h.env.small
  have Hspec : Hid (tokOf s i false (dottedB x.last) = some ⟨⟨#[64]⟩, none, none, i + 1⟩) := by
    show _ = _
    rw [tok_sign hi (by omega) (by rw [hc]; decide) (fun k => by have := k.1; omega) (fun k => h1 k.2.1) (by omega) (by rw [hc]; decide), signOf_eq]
    simp [symL, sigL, hc, h1]
  have Hc := Lib.hid hc
  clear hc
  have H := Lib.hid h
  clear h
  go_enter Tryz.func38, Tryz.ntmps38
  go_wp2_with fail
  refine H.out.eof0.mono ?_
  rintro e w' ⟨rfl, n1, rfl⟩
  rw [decide_eq_false (show ¬ s.size ≤ i by omega)]
  go_wp2_with fail
  refine (H.out.peek n1 0 _ rfl hi).mono ?_
  rintro e w' ⟨rfl, n2, rfl⟩
  rw [show bt s (i + 0) = 64 from Hc.out]
  go_wp2_with fail
  refine (H.out.peekIs n2 1 _ 64 rfl (by omega)).mono ?_
  rintro e w' ⟨rfl, n3, rfl⟩
  rw [decide_eq_false (show ¬ (i + 1 < s.size ∧ bt s (i + 1) = 64) from fun k => h1 k.1)]
  go_wp2_with fail
  refine (H.out.peekOk n3 1 _ rfl (by omega)).mono ?_
  rintro e w' ⟨rfl, n4, rfl⟩
  rw [decide_eq_false h1]
  go_wp2_with fail
  refine (H.out.skip n4 hi).mono ?_
  rintro e w' ⟨rfl, n5, hw⟩
  have hx2 := ((H.out.dn n5).lx).setPos ((i + 1 : Nat) : Int)
  have hO2 := ((Only.refl b w).dn n5).setCell 9 (.int .i64 ((i + 1 : Nat) : Int))
  obtain ⟨W, hW⟩ : ∃ W, (w.drewN n5).setCell ⟨b, 9, none⟩ (.int .i64 ((i + 1 : Nat) : Int)) = W := ⟨_, rfl⟩
  rw [hW] at hx2 hO2 hw
  replace hw := hw.symm
  subst hw
  clear hW
  have HX2 := Lib.hid hx2
  have HO2 := Lib.hid hO2
  have c1 := hx2.cell1
  have f1 := hx2.free 1
  have c11 := hx2.cell11
  have f11 := hx2.free 11
  have hlt := hx2.lt
  clear hx2 hO2
  go_wp2_with fail
  refine bodyPost_ret (results_none rfl _ _ _) rfl ?_
  exact step_tok Hspec.out rfl (HX2.out.setKind _) (HO2.out.setCell 1 _)
set_option maxHeartbeats 8000000 in
set_option maxRecDepth 1000000 in
theorem tok_at_no (s : ByteArray) (b f i B : Nat) (x : LxS) (w : World) (h : THead s b f i B x w) (hi : i < s.size) (hc : bt s i = 64) (h1 : i + 1 < s.size) (h64 : bt s (i + 1) ≠ 64) (hl : letterB (bt s (i + 1)) = false) :
    Calls Tryz.prog 38 #[.pointer (some ⟨b, 0, none⟩), .bool false] w (Step b f x B (tokStep x (dottedB x.last) (tokOf s i false (dottedB x.last))) w) := by
  have hs := h.env.small
  have Hspec : Hid (tokOf s i false (dottedB x.last) = some ⟨⟨#[64]⟩, none, none, i + 1⟩) := by
    show _ = _
    rw [tok_sign hi (by omega) (by rw [hc]; decide) (fun k => by have := k.1; omega) (fun k => by rw [k.2.2] at hl; cases hl) (by omega) (by rw [hc]; decide), signOf_eq]
    simp [symL, sigL, hc, h64]
  have Hc := Lib.hid hc
  clear hc
  have Hl := Lib.hid hl
  have H64 := Lib.hid h64
  clear hl h64
  have H := Lib.hid h
  clear h
  go_enter Tryz.func38, Tryz.ntmps38
  go_wp2_with fail
  refine H.out.eof0.mono ?_
  rintro e w' ⟨rfl, n1, rfl⟩
  rw [decide_eq_false (show ¬ s.size ≤ i by omega)]
  go_wp2_with fail
  refine (H.out.peek n1 0 _ rfl hi).mono ?_
  rintro e w' ⟨rfl, n2, rfl⟩
  rw [show bt s (i + 0) = 64 from Hc.out]
  go_wp2_with fail
  refine (H.out.peekIs n2 1 _ 64 rfl (by omega)).mono ?_
  rintro e w' ⟨rfl, n3, rfl⟩
  rw [decide_eq_false (show ¬ (i + 1 < s.size ∧ bt s (i + 1) = 64) from fun k => H64.out k.2)]
  go_wp2_with fail
  refine (H.out.peekOk n3 1 _ rfl (by omega)).mono ?_
  rintro e w' ⟨rfl, n4, rfl⟩
  rw [decide_eq_true h1]
  go_wp2_with fail
  refine (H.out.peek n4 1 _ rfl h1).mono ?_
  rintro e w' ⟨rfl, n5, rfl⟩
  go_wp2_with fail
  refine (IdStart_c _ _).mono ?_
  rintro e w' ⟨rfl, hw⟩
  subst hw
  rw [Hl.out]
  go_wp2_with fail
  refine (H.out.skip n5 hi).mono ?_
  rintro e w' ⟨rfl, n6, hw⟩
  have hx2 := ((H.out.dn n6).lx).setPos ((i + 1 : Nat) : Int)
  have hO2 := ((Only.refl b w).dn n6).setCell 9 (.int .i64 ((i + 1 : Nat) : Int))
  obtain ⟨W, hW⟩ : ∃ W, (w.drewN n6).setCell ⟨b, 9, none⟩ (.int .i64 ((i + 1 : Nat) : Int)) = W := ⟨_, rfl⟩
  rw [hW] at hx2 hO2 hw
  replace hw := hw.symm
  subst hw
  clear hW
  have HX2 := Lib.hid hx2
  have HO2 := Lib.hid hO2
  have c1 := hx2.cell1
  have f1 := hx2.free 1
  have c11 := hx2.cell11
  have f11 := hx2.free 11
  have hlt := hx2.lt
  clear hx2 hO2
  go_wp2_with fail
  refine bodyPost_ret (results_none rfl _ _ _) rfl ?_
  exact step_tok Hspec.out rfl (HX2.out.setKind _) (HO2.out.setCell 1 _)
end Go.Proofs.YtmkkeacbabmaeaaGreatDoor
namespace Go.Proofs.YtmkkeacbabmaeaaGreatDoor
open Go.RowKit Go.PlainAid

set_option maxHeartbeats 8000000 in
set_option maxRecDepth 1000000 in
theorem tok_dig48 (s : ByteArray) (b f i B : Nat) (x : LxS) (w : World) (h : THead s b f i B x w) (hi : i < s.size) (hb0 : x.base = 0) (hc : bt s i = 48) :
    Calls Tryz.prog 38 #[.pointer (some ⟨b, 0, none⟩), .bool false] w (Step b f x B (tokStep x (dottedB x.last) (tokOf s i false (dottedB x.last))) w) := by
  have hs := h.env.small
  have Hspec : Hid (tokStep x (dottedB x.last) (tokOf s i false (dottedB x.last)) = numStep x (numOf s i)) := by
    show _ = _
    rw [tok_num hi (by omega) (Or.inl (by rw [hc]; decide))]
    exact num_step hb0
  have Hc := Lib.hid hc
  clear hc
  have H := Lib.hid h
  clear h
  go_enter Tryz.func38, Tryz.ntmps38
  go_wp2_with fail
  refine H.out.eof0.mono ?_
  rintro e w' ⟨rfl, n1, rfl⟩
  rw [decide_eq_false (show ¬ s.size ≤ i by omega)]
  go_wp2_with fail
  refine (H.out.peek n1 0 _ rfl hi).mono ?_
  rintro e w' ⟨rfl, n2, rfl⟩
  rw [show bt s (i + 0) = 48 from Hc.out]
  go_wp2_with fail
  refine (H.out.number n2 hi).mono ?_
  rintro e w' k
  have k2 := k.low ((Only.refl b w).dn _) H.out.lx H.out.env.bb H.out.env.bw (y := x)
  rw [← Hspec.out] at k2
  clear k
  rcases k2.shape with rfl | ⟨v, rfl⟩
  · go_wp2_with fail
    refine bodyPost_ret (results_none rfl _ _ _) rfl ?_
    exact k2
  · exact ⟨rfl, k2⟩
set_option maxHeartbeats 8000000 in
set_option maxRecDepth 1000000 in
theorem tok_dig49 (s : ByteArray) (b f i B : Nat) (x : LxS) (w : World) (h : THead s b f i B x w) (hi : i < s.size) (hb0 : x.base = 0) (hc : bt s i = 49) :
    Calls Tryz.prog 38 #[.pointer (some ⟨b, 0, none⟩), .bool false] w (Step b f x B (tokStep x (dottedB x.last) (tokOf s i false (dottedB x.last))) w) := by
  have hs := h.env.small
  have Hspec : Hid (tokStep x (dottedB x.last) (tokOf s i false (dottedB x.last)) = numStep x (numOf s i)) := by
    show _ = _
    rw [tok_num hi (by omega) (Or.inl (by rw [hc]; decide))]
    exact num_step hb0
  have Hc := Lib.hid hc
  clear hc
  have H := Lib.hid h
  clear h
  go_enter Tryz.func38, Tryz.ntmps38
  go_wp2_with fail
  refine H.out.eof0.mono ?_
  rintro e w' ⟨rfl, n1, rfl⟩
  rw [decide_eq_false (show ¬ s.size ≤ i by omega)]
  go_wp2_with fail
  refine (H.out.peek n1 0 _ rfl hi).mono ?_
  rintro e w' ⟨rfl, n2, rfl⟩
  rw [show bt s (i + 0) = 49 from Hc.out]
  go_wp2_with fail
  refine (H.out.number n2 hi).mono ?_
  rintro e w' k
  have k2 := k.low ((Only.refl b w).dn _) H.out.lx H.out.env.bb H.out.env.bw (y := x)
  rw [← Hspec.out] at k2
  clear k
  rcases k2.shape with rfl | ⟨v, rfl⟩
  · go_wp2_with fail
    refine bodyPost_ret (results_none rfl _ _ _) rfl ?_
    exact k2
  · exact ⟨rfl, k2⟩
set_option maxHeartbeats 8000000 in
set_option maxRecDepth 1000000 in
theorem tok_dig50 (s : ByteArray) (b f i B : Nat) (x : LxS) (w : World) (h : THead s b f i B x w) (hi : i < s.size) (hb0 : x.base = 0) (hc : bt s i = 50) :
    Calls Tryz.prog 38 #[.pointer (some ⟨b, 0, none⟩), .bool false] w (Step b f x B (tokStep x (dottedB x.last) (tokOf s i false (dottedB x.last))) w) := by
  have hs := h.env.small
  have Hspec : Hid (tokStep x (dottedB x.last) (tokOf s i false (dottedB x.last)) = numStep x (numOf s i)) := by
    show _ = _
    rw [tok_num hi (by omega) (Or.inl (by rw [hc]; decide))]
    exact num_step hb0
  have Hc := Lib.hid hc
  clear hc
  have H := Lib.hid h
  clear h
  go_enter Tryz.func38, Tryz.ntmps38
  go_wp2_with fail
  refine H.out.eof0.mono ?_
  rintro e w' ⟨rfl, n1, rfl⟩
  rw [decide_eq_false (show ¬ s.size ≤ i by omega)]
  go_wp2_with fail
  refine (H.out.peek n1 0 _ rfl hi).mono ?_
  rintro e w' ⟨rfl, n2, rfl⟩
  rw [show bt s (i + 0) = 50 from Hc.out]
  go_wp2_with fail
  refine (H.out.number n2 hi).mono ?_
  rintro e w' k
  have k2 := k.low ((Only.refl b w).dn _) H.out.lx H.out.env.bb H.out.env.bw (y := x)
  rw [← Hspec.out] at k2
  clear k
  rcases k2.shape with rfl | ⟨v, rfl⟩
  · go_wp2_with fail
    refine bodyPost_ret (results_none rfl _ _ _) rfl ?_
    exact k2
  · exact ⟨rfl, k2⟩
set_option maxHeartbeats 8000000 in
set_option maxRecDepth 1000000 in
theorem tok_dig51 (s : ByteArray) (b f i B : Nat) (x : LxS) (w : World) (h : THead s b f i B x w) (hi : i < s.size) (hb0 : x.base = 0) (hc : bt s i = 51) :
    Calls Tryz.prog 38 #[.pointer (some ⟨b, 0, none⟩), .bool false] w (Step b f x B (tokStep x (dottedB x.last) (tokOf s i false (dottedB x.last))) w) := by
  have hs := h.env.small
  have Hspec : Hid (tokStep x (dottedB x.last) (tokOf s i false (dottedB x.last)) = numStep x (numOf s i)) := by
    show _ = _
    rw [tok_num hi (by omega) (Or.inl (by rw [hc]; decide))]
    exact num_step hb0
  have Hc := Lib.hid hc
  clear hc
  have H := Lib.hid h
  clear h
  go_enter Tryz.func38, Tryz.ntmps38
  go_wp2_with fail
  refine H.out.eof0.mono ?_
  rintro e w' ⟨rfl, n1, rfl⟩
  rw [decide_eq_false (show ¬ s.size ≤ i by omega)]
  go_wp2_with fail
  refine (H.out.peek n1 0 _ rfl hi).mono ?_
  rintro e w' ⟨rfl, n2, rfl⟩
  rw [show bt s (i + 0) = 51 from Hc.out]
  go_wp2_with fail
  refine (H.out.number n2 hi).mono ?_
  rintro e w' k
  have k2 := k.low ((Only.refl b w).dn _) H.out.lx H.out.env.bb H.out.env.bw (y := x)
  rw [← Hspec.out] at k2
  clear k
  rcases k2.shape with rfl | ⟨v, rfl⟩
  · go_wp2_with fail
    refine bodyPost_ret (results_none rfl _ _ _) rfl ?_
    exact k2
  · exact ⟨rfl, k2⟩
set_option maxHeartbeats 8000000 in
set_option maxRecDepth 1000000 in
theorem tok_dig52 (s : ByteArray) (b f i B : Nat) (x : LxS) (w : World) (h : THead s b f i B x w) (hi : i < s.size) (hb0 : x.base = 0) (hc : bt s i = 52) :
    Calls Tryz.prog 38 #[.pointer (some ⟨b, 0, none⟩), .bool false] w (Step b f x B (tokStep x (dottedB x.last) (tokOf s i false (dottedB x.last))) w) := by
  have hs := h.env.small
  have Hspec : Hid (tokStep x (dottedB x.last) (tokOf s i false (dottedB x.last)) = numStep x (numOf s i)) := by
    show _ = _
    rw [tok_num hi (by omega) (Or.inl (by rw [hc]; decide))]
    exact num_step hb0
  have Hc := Lib.hid hc
  clear hc
  have H := Lib.hid h
  clear h
  go_enter Tryz.func38, Tryz.ntmps38
  go_wp2_with fail
  refine H.out.eof0.mono ?_
  rintro e w' ⟨rfl, n1, rfl⟩
  rw [decide_eq_false (show ¬ s.size ≤ i by omega)]
  go_wp2_with fail
  refine (H.out.peek n1 0 _ rfl hi).mono ?_
  rintro e w' ⟨rfl, n2, rfl⟩
  rw [show bt s (i + 0) = 52 from Hc.out]
  go_wp2_with fail
  refine (H.out.number n2 hi).mono ?_
  rintro e w' k
  have k2 := k.low ((Only.refl b w).dn _) H.out.lx H.out.env.bb H.out.env.bw (y := x)
  rw [← Hspec.out] at k2
  clear k
  rcases k2.shape with rfl | ⟨v, rfl⟩
  · go_wp2_with fail
    refine bodyPost_ret (results_none rfl _ _ _) rfl ?_
    exact k2
  · exact ⟨rfl, k2⟩
set_option maxHeartbeats 8000000 in
set_option maxRecDepth 1000000 in
theorem tok_dig53 (s : ByteArray) (b f i B : Nat) (x : LxS) (w : World) (h : THead s b f i B x w) (hi : i < s.size) (hb0 : x.base = 0) (hc : bt s i = 53) :
    Calls Tryz.prog 38 #[.pointer (some ⟨b, 0, none⟩), .bool false] w (Step b f x B (tokStep x (dottedB x.last) (tokOf s i false (dottedB x.last))) w) := by
  have hs := h.env.small
  have Hspec : Hid (tokStep x (dottedB x.last) (tokOf s i false (dottedB x.last)) = numStep x (numOf s i)) := by
    show _ = _
    rw [tok_num hi (by omega) (Or.inl (by rw [hc]; decide))]
    exact num_step hb0
  have Hc := Lib.hid hc
  clear hc
  have H := Lib.hid h
  clear h
  go_enter Tryz.func38, Tryz.ntmps38
  go_wp2_with fail
  refine H.out.eof0.mono ?_
  rintro e w' ⟨rfl, n1, rfl⟩
  rw [decide_eq_false (show ¬ s.size ≤ i by omega)]
  go_wp2_with fail
  refine (H.out.peek n1 0 _ rfl hi).mono ?_
  rintro e w' ⟨rfl, n2, rfl⟩
  rw [show bt s (i + 0) = 53 from Hc.out]
  go_wp2_with fail
  refine (H.out.number n2 hi).mono ?_
  rintro e w' k
  have k2 := k.low ((Only.refl b w).dn _) H.out.lx H.out.env.bb H.out.env.bw (y := x)
  rw [← Hspec.out] at k2
  clear k
  rcases k2.shape with rfl | ⟨v, rfl⟩
  · go_wp2_with fail
    refine bodyPost_ret (results_none rfl _ _ _) rfl ?_
    exact k2
  · exact ⟨rfl, k2⟩
set_option maxHeartbeats 8000000 in
set_option maxRecDepth 1000000 in
theorem tok_dig54 (s : ByteArray) (b f i B : Nat) (x : LxS) (w : World) (h : THead s b f i B x w) (hi : i < s.size) (hb0 : x.base = 0) (hc : bt s i = 54) :
    Calls Tryz.prog 38 #[.pointer (some ⟨b, 0, none⟩), .bool false] w (Step b f x B (tokStep x (dottedB x.last) (tokOf s i false (dottedB x.last))) w) := by
  have hs := h.env.small
  have Hspec : Hid (tokStep x (dottedB x.last) (tokOf s i false (dottedB x.last)) = numStep x (numOf s i)) := by
    show _ = _
    rw [tok_num hi (by omega) (Or.inl (by rw [hc]; decide))]
    exact num_step hb0
  have Hc := Lib.hid hc
  clear hc
  have H := Lib.hid h
  clear h
  go_enter Tryz.func38, Tryz.ntmps38
  go_wp2_with fail
  refine H.out.eof0.mono ?_
  rintro e w' ⟨rfl, n1, rfl⟩
  rw [decide_eq_false (show ¬ s.size ≤ i by omega)]
  go_wp2_with fail
  refine (H.out.peek n1 0 _ rfl hi).mono ?_
  rintro e w' ⟨rfl, n2, rfl⟩
  rw [show bt s (i + 0) = 54 from Hc.out]
  go_wp2_with fail
  refine (H.out.number n2 hi).mono ?_
  rintro e w' k
  have k2 := k.low ((Only.refl b w).dn _) H.out.lx H.out.env.bb H.out.env.bw (y := x)
  rw [← Hspec.out] at k2
  clear k
  rcases k2.shape with rfl | ⟨v, rfl⟩
  · go_wp2_with fail
    refine bodyPost_ret (results_none rfl _ _ _) rfl ?_
    exact k2
  · exact ⟨rfl, k2⟩
set_option maxHeartbeats 8000000 in
set_option maxRecDepth 1000000 in
theorem tok_dig55 (s : ByteArray) (b f i B : Nat) (x : LxS) (w : World) (h : THead s b f i B x w) (hi : i < s.size) (hb0 : x.base = 0) (hc : bt s i = 55) :
    Calls Tryz.prog 38 #[.pointer (some ⟨b, 0, none⟩), .bool false] w (Step b f x B (tokStep x (dottedB x.last) (tokOf s i false (dottedB x.last))) w) := by
  have hs := h.env.small
  have Hspec : Hid (tokStep x (dottedB x.last) (tokOf s i false (dottedB x.last)) = numStep x (numOf s i)) := by
    show _ = _
    rw [tok_num hi (by omega) (Or.inl (by rw [hc]; decide))]
    exact num_step hb0
  have Hc := Lib.hid hc
  clear hc
  have H := Lib.hid h
  clear h
  go_enter Tryz.func38, Tryz.ntmps38
  go_wp2_with fail
  refine H.out.eof0.mono ?_
  rintro e w' ⟨rfl, n1, rfl⟩
  rw [decide_eq_false (show ¬ s.size ≤ i by omega)]
  go_wp2_with fail
  refine (H.out.peek n1 0 _ rfl hi).mono ?_
  rintro e w' ⟨rfl, n2, rfl⟩
  rw [show bt s (i + 0) = 55 from Hc.out]
  go_wp2_with fail
  refine (H.out.number n2 hi).mono ?_
  rintro e w' k
  have k2 := k.low ((Only.refl b w).dn _) H.out.lx H.out.env.bb H.out.env.bw (y := x)
  rw [← Hspec.out] at k2
  clear k
  rcases k2.shape with rfl | ⟨v, rfl⟩
  · go_wp2_with fail
    refine bodyPost_ret (results_none rfl _ _ _) rfl ?_
    exact k2
  · exact ⟨rfl, k2⟩
set_option maxHeartbeats 8000000 in
set_option maxRecDepth 1000000 in
theorem tok_dig56 (s : ByteArray) (b f i B : Nat) (x : LxS) (w : World) (h : THead s b f i B x w) (hi : i < s.size) (hb0 : x.base = 0) (hc : bt s i = 56) :
    Calls Tryz.prog 38 #[.pointer (some ⟨b, 0, none⟩), .bool false] w (Step b f x B (tokStep x (dottedB x.last) (tokOf s i false (dottedB x.last))) w) := by
  have hs := h.env.small
  have Hspec : Hid (tokStep x (dottedB x.last) (tokOf s i false (dottedB x.last)) = numStep x (numOf s i)) := by
    show _ = _
    rw [tok_num hi (by omega) (Or.inl (by rw [hc]; decide))]
    exact num_step hb0
  have Hc := Lib.hid hc
  clear hc
  have H := Lib.hid h
  clear h
  go_enter Tryz.func38, Tryz.ntmps38
  go_wp2_with fail
  refine H.out.eof0.mono ?_
  rintro e w' ⟨rfl, n1, rfl⟩
  rw [decide_eq_false (show ¬ s.size ≤ i by omega)]
  go_wp2_with fail
  refine (H.out.peek n1 0 _ rfl hi).mono ?_
  rintro e w' ⟨rfl, n2, rfl⟩
  rw [show bt s (i + 0) = 56 from Hc.out]
  go_wp2_with fail
  refine (H.out.number n2 hi).mono ?_
  rintro e w' k
  have k2 := k.low ((Only.refl b w).dn _) H.out.lx H.out.env.bb H.out.env.bw (y := x)
  rw [← Hspec.out] at k2
  clear k
  rcases k2.shape with rfl | ⟨v, rfl⟩
  · go_wp2_with fail
    refine bodyPost_ret (results_none rfl _ _ _) rfl ?_
    exact k2
  · exact ⟨rfl, k2⟩
set_option maxHeartbeats 8000000 in
set_option maxRecDepth 1000000 in
theorem tok_dig57 (s : ByteArray) (b f i B : Nat) (x : LxS) (w : World) (h : THead s b f i B x w) (hi : i < s.size) (hb0 : x.base = 0) (hc : bt s i = 57) :
    Calls Tryz.prog 38 #[.pointer (some ⟨b, 0, none⟩), .bool false] w (Step b f x B (tokStep x (dottedB x.last) (tokOf s i false (dottedB x.last))) w) := by
  have hs := h.env.small
  have Hspec : Hid (tokStep x (dottedB x.last) (tokOf s i false (dottedB x.last)) = numStep x (numOf s i)) := by
    show _ = _
    rw [tok_num hi (by omega) (Or.inl (by rw [hc]; decide))]
    exact num_step hb0
  have Hc := Lib.hid hc
  clear hc
  have H := Lib.hid h
  clear h
  go_enter Tryz.func38, Tryz.ntmps38
  go_wp2_with fail
  refine H.out.eof0.mono ?_
  rintro e w' ⟨rfl, n1, rfl⟩
  rw [decide_eq_false (show ¬ s.size ≤ i by omega)]
  go_wp2_with fail
  refine (H.out.peek n1 0 _ rfl hi).mono ?_
  rintro e w' ⟨rfl, n2, rfl⟩
  rw [show bt s (i + 0) = 57 from Hc.out]
  go_wp2_with fail
  refine (H.out.number n2 hi).mono ?_
  rintro e w' k
  have k2 := k.low ((Only.refl b w).dn _) H.out.lx H.out.env.bb H.out.env.bw (y := x)
  rw [← Hspec.out] at k2
  clear k
  rcases k2.shape with rfl | ⟨v, rfl⟩
  · go_wp2_with fail
    refine bodyPost_ret (results_none rfl _ _ _) rfl ?_
    exact k2
  · exact ⟨rfl, k2⟩
end Go.Proofs.YtmkkeacbabmaeaaGreatDoor
namespace Go.Proofs.YtmkkeacbabmaeaaGreatDoor
open Go.RowKit Go.PlainAid

theorem dot_out {s : ByteArray} {i : Nat} {after : Bool} (hi : i < s.size) (hc : bt s i = 46) (hn : ¬ dotNum s i after) : tokOf s i false after = some ⟨⟨#[46]⟩, none, none, i + 1⟩ := by
  rw [tok_sign hi (by omega) (by rw [hc]; decide) hn (fun k => by have := k.1; omega) (by omega) (by rw [hc]; decide), signOf_eq]
  simp [symL, sigL, hc]
set_option maxHeartbeats 8000000 in
set_option maxRecDepth 1000000 in
theorem tok_dot_dotted (s : ByteArray) (b f i B : Nat) (x : LxS) (w : World) (h : THead s b f i B x w) (hi : i < s.size) (hc : bt s i = 46) (ha : dottedB x.last = true) :
    Calls Tryz.prog 38 #[.pointer (some ⟨b, 0, none⟩), .bool false] w (Step b f x B (tokStep x (dottedB x.last) (tokOf s i false (dottedB x.last))) w) := by
  have hs := h.env.small
  have Hspec : Hid (tokOf s i false (dottedB x.last) = some ⟨⟨#[46]⟩, none, none, i + 1⟩) := dot_out hi hc (fun k => by have := k.2.1; rw [ha] at this; cases this)
  have Hc := Lib.hid hc
  have Ha := Lib.hid ha
  clear hc ha
  have H := Lib.hid h
  clear h
  go_enter Tryz.func38, Tryz.ntmps38
  go_wp2_with fail
  refine H.out.eof0.mono ?_
  rintro e w' ⟨rfl, n1, rfl⟩
  rw [decide_eq_false (show ¬ s.size ≤ i by omega)]
  go_wp2_with fail
  refine (H.out.peek n1 0 _ rfl hi).mono ?_
  rintro e w' ⟨rfl, n2, rfl⟩
  rw [show bt s (i + 0) = 46 from Hc.out]
  have c10 : World.cell? (w.drewN n2) ⟨b, 10, none⟩ = some (.string x.last) := (H.out.dn n2).lx.cell10
  go_wp2_with fail
  refine (isNextDot_c x.last _).mono ?_
  rintro e w' ⟨rfl, rfl⟩
  rw [Ha.out]
  go_wp2_with fail
  refine (H.out.skip n2 hi).mono ?_
  rintro e w' ⟨rfl, n3, hw⟩
  have hx2 := ((H.out.dn n3).lx).setPos ((i + 1 : Nat) : Int)
  have hO2 := ((Only.refl b w).dn n3).setCell 9 (.int .i64 ((i + 1 : Nat) : Int))
  obtain ⟨W, hW⟩ : ∃ W, (w.drewN n3).setCell ⟨b, 9, none⟩ (.int .i64 ((i + 1 : Nat) : Int)) = W := ⟨_, rfl⟩
  rw [hW] at hx2 hO2 hw
  replace hw := hw.symm
  subst hw
  clear hW
  have HX2 := Lib.hid hx2
  have HO2 := Lib.hid hO2
  have c1 := hx2.cell1
  have f1 := hx2.free 1
  have c11 := hx2.cell11
  have f11 := hx2.free 11
  have hlt := hx2.lt
  clear hx2 hO2
  go_wp2_with fail
  refine bodyPost_ret (results_none rfl _ _ _) rfl ?_
  exact step_tok Hspec.out (by rw [Ha.out]; rfl) ((HX2.out.setKind _).setDot _) ((HO2.out.setCell 1 _).setCell 11 _)
set_option maxHeartbeats 8000000 in
set_option maxRecDepth 1000000 in
theorem tok_dot_end (s : ByteArray) (b f i B : Nat) (x : LxS) (w : World) (h : THead s b f i B x w) (hi : i < s.size) (hc : bt s i = 46) (ha : dottedB x.last = false) (h1 : ¬ i + 1 < s.size) :
    Calls Tryz.prog 38 #[.pointer (some ⟨b, 0, none⟩), .bool false] w (Step b f x B (tokStep x (dottedB x.last) (tokOf s i false (dottedB x.last))) w) := by
  have hs := h.env.small
  have Hspec : Hid (tokOf s i false (dottedB x.last) = some ⟨⟨#[46]⟩, none, none, i + 1⟩) := dot_out hi hc (fun k => h1 k.2.2.1)
  have Hc := Lib.hid hc
  have Ha := Lib.hid ha
  clear hc ha
  have H := Lib.hid h
  clear h
  go_enter Tryz.func38, Tryz.ntmps38
  go_wp2_with fail
  refine H.out.eof0.mono ?_
  rintro e w' ⟨rfl, n1, rfl⟩
  rw [decide_eq_false (show ¬ s.size ≤ i by omega)]
  go_wp2_with fail
  refine (H.out.peek n1 0 _ rfl hi).mono ?_
  rintro e w' ⟨rfl, n2, rfl⟩
  rw [show bt s (i + 0) = 46 from Hc.out]
  have c10 : World.cell? (w.drewN n2) ⟨b, 10, none⟩ = some (.string x.last) := (H.out.dn n2).lx.cell10
  go_wp2_with fail
  refine (isNextDot_c x.last _).mono ?_
  rintro e w' ⟨rfl, rfl⟩
  rw [Ha.out]
  go_wp2_with fail
  refine (H.out.peekOk n2 1 _ rfl (by omega)).mono ?_
  rintro e w' ⟨rfl, n3, rfl⟩
  rw [decide_eq_false h1]
  go_wp2_with fail
  refine (H.out.skip n3 hi).mono ?_
  rintro e w' ⟨rfl, n4, hw⟩
  have hx2 := ((H.out.dn n4).lx).setPos ((i + 1 : Nat) : Int)
  have hO2 := ((Only.refl b w).dn n4).setCell 9 (.int .i64 ((i + 1 : Nat) : Int))
  obtain ⟨W, hW⟩ : ∃ W, (w.drewN n4).setCell ⟨b, 9, none⟩ (.int .i64 ((i + 1 : Nat) : Int)) = W := ⟨_, rfl⟩
  rw [hW] at hx2 hO2 hw
  replace hw := hw.symm
  subst hw
  clear hW
  have HX2 := Lib.hid hx2
  have HO2 := Lib.hid hO2
  have c1 := hx2.cell1
  have f1 := hx2.free 1
  have c11 := hx2.cell11
  have f11 := hx2.free 11
  have hlt := hx2.lt
  clear hx2 hO2
  go_wp2_with fail
  refine bodyPost_ret (results_none rfl _ _ _) rfl ?_
  exact step_tok Hspec.out (by rw [Ha.out]; rfl) ((HX2.out.setKind _).setDot _) ((HO2.out.setCell 1 _).setCell 11 _)
set_option maxHeartbeats 8000000 in
set_option maxRecDepth 1000000 in
theorem tok_dot_sign (s : ByteArray) (b f i B : Nat) (x : LxS) (w : World) (h : THead s b f i B x w) (hi : i < s.size) (hc : bt s i = 46) (ha : dottedB x.last = false) (h1 : i + 1 < s.size) (hd : digitB (bt s (i + 1)) = false) :
    Calls Tryz.prog 38 #[.pointer (some ⟨b, 0, none⟩), .bool false] w (Step b f x B (tokStep x (dottedB x.last) (tokOf s i false (dottedB x.last))) w) := by
  have hs := h.env.small
  have Hspec : Hid (tokOf s i false (dottedB x.last) = some ⟨⟨#[46]⟩, none, none, i + 1⟩) := dot_out hi hc (fun k => by have := k.2.2.2; rw [hd] at this; cases this)
  have Hc := Lib.hid hc
  have Ha := Lib.hid ha
  clear hc ha
  have Hd := Lib.hid hd
  clear hd
  have H := Lib.hid h
  clear h
  go_enter Tryz.func38, Tryz.ntmps38
  go_wp2_with fail
  refine H.out.eof0.mono ?_
  rintro e w' ⟨rfl, n1, rfl⟩
  rw [decide_eq_false (show ¬ s.size ≤ i by omega)]
  go_wp2_with fail
  refine (H.out.peek n1 0 _ rfl hi).mono ?_
  rintro e w' ⟨rfl, n2, rfl⟩
  rw [show bt s (i + 0) = 46 from Hc.out]
  have c10 : World.cell? (w.drewN n2) ⟨b, 10, none⟩ = some (.string x.last) := (H.out.dn n2).lx.cell10
  go_wp2_with fail
  refine (isNextDot_c x.last _).mono ?_
  rintro e w' ⟨rfl, rfl⟩
  rw [Ha.out]
  go_wp2_with fail
  refine (H.out.peekOk n2 1 _ rfl (by omega)).mono ?_
  rintro e w' ⟨rfl, n3, rfl⟩
  rw [decide_eq_true h1]
  go_wp2_with fail
  refine (H.out.peek n3 1 _ rfl h1).mono ?_
  rintro e w' ⟨rfl, n4, rfl⟩
  go_wp2_with fail
  refine (IsDigit_c _ _).mono ?_
  rintro e w' ⟨rfl, rfl⟩
  rw [Hd.out]
  go_wp2_with fail
  refine (H.out.skip n4 hi).mono ?_
  rintro e w' ⟨rfl, n5, hw⟩
  have hx2 := ((H.out.dn n5).lx).setPos ((i + 1 : Nat) : Int)
  have hO2 := ((Only.refl b w).dn n5).setCell 9 (.int .i64 ((i + 1 : Nat) : Int))
  obtain ⟨W, hW⟩ : ∃ W, (w.drewN n5).setCell ⟨b, 9, none⟩ (.int .i64 ((i + 1 : Nat) : Int)) = W := ⟨_, rfl⟩
  rw [hW] at hx2 hO2 hw
  replace hw := hw.symm
  subst hw
  clear hW
  have HX2 := Lib.hid hx2
  have HO2 := Lib.hid hO2
  have c1 := hx2.cell1
  have f1 := hx2.free 1
  have c11 := hx2.cell11
  have f11 := hx2.free 11
  have hlt := hx2.lt
  clear hx2 hO2
  go_wp2_with fail
  refine bodyPost_ret (results_none rfl _ _ _) rfl ?_
  exact step_tok Hspec.out (by rw [Ha.out]; rfl) ((HX2.out.setKind _).setDot _) ((HO2.out.setCell 1 _).setCell 11 _)
set_option maxHeartbeats 8000000 in
set_option maxRecDepth 1000000 in
theorem tok_dot_num (s : ByteArray) (b f i B : Nat) (x : LxS) (w : World) (h : THead s b f i B x w) (hi : i < s.size) (hc : bt s i = 46) (hb0 : x.base = 0) (ha : dottedB x.last = false) (h1 : i + 1 < s.size) (hd : digitB (bt s (i + 1)) = true) :
    Calls Tryz.prog 38 #[.pointer (some ⟨b, 0, none⟩), .bool false] w (Step b f x B (tokStep x (dottedB x.last) (tokOf s i false (dottedB x.last))) w) := by
  have hs := h.env.small
  have Hspec : Hid (tokStep x (dottedB x.last) (tokOf s i false (dottedB x.last)) = numStep x (numOf s i)) := by
    show _ = _
    rw [tok_num hi (by omega) (Or.inr ⟨hc, ha, h1, hd⟩)]
    exact num_step hb0
  have Hc := Lib.hid hc
  have Ha := Lib.hid ha
  clear hc ha
  have Hd := Lib.hid hd
  clear hd
  have H := Lib.hid h
  clear h
  go_enter Tryz.func38, Tryz.ntmps38
  go_wp2_with fail
  refine H.out.eof0.mono ?_
  rintro e w' ⟨rfl, n1, rfl⟩
  rw [decide_eq_false (show ¬ s.size ≤ i by omega)]
  go_wp2_with fail
  refine (H.out.peek n1 0 _ rfl hi).mono ?_
  rintro e w' ⟨rfl, n2, rfl⟩
  rw [show bt s (i + 0) = 46 from Hc.out]
  have c10 : World.cell? (w.drewN n2) ⟨b, 10, none⟩ = some (.string x.last) := (H.out.dn n2).lx.cell10
  go_wp2_with fail
  refine (isNextDot_c x.last _).mono ?_
  rintro e w' ⟨rfl, rfl⟩
  rw [Ha.out]
  go_wp2_with fail
  refine (H.out.peekOk n2 1 _ rfl (by omega)).mono ?_
  rintro e w' ⟨rfl, n3, rfl⟩
  rw [decide_eq_true h1]
  go_wp2_with fail
  refine (H.out.peek n3 1 _ rfl h1).mono ?_
  rintro e w' ⟨rfl, n4, rfl⟩
  go_wp2_with fail
  refine (IsDigit_c _ _).mono ?_
  rintro e w' ⟨rfl, rfl⟩
  rw [Hd.out]
  go_wp2_with fail
  refine (H.out.number n4 hi).mono ?_
  rintro e w' k
  have k2 := k.low ((Only.refl b w).dn _) H.out.lx H.out.env.bb H.out.env.bw (y := x)
  rw [← Hspec.out] at k2
  clear k
  rcases k2.shape with rfl | ⟨v, rfl⟩
  · go_wp2_with fail
    refine bodyPost_ret (results_none rfl _ _ _) rfl ?_
    exact k2
  · exact ⟨rfl, k2⟩
end Go.Proofs.YtmkkeacbabmaeaaGreatDoor
namespace Go.Proofs.YtmkkeacbabmaeaaGreatDoor
open Go.RowKit Go.PlainAid

set_option maxHeartbeats 8000000 in
set_option maxRecDepth 1000000 in
theorem tok_name (s : ByteArray) (b f i B : Nat) (x : LxS) (w : World) (h : THead s b f i B x w) (hi : i < s.size) (hc : bt s i = 64) (h1 : i + 1 < s.size) (hl : letterB (bt s (i + 1)) = true) :
    Calls Tryz.prog 38 #[.pointer (some ⟨b, 0, none⟩), .bool false] w (Step b f x B (tokStep x (dottedB x.last) (tokOf s i false (dottedB x.last))) w) := by
  have hs := h.env.small
  have Hspec : Hid (tokOf s i false (dottedB x.last) = some ⟨kParam, some (s.extract (i + 1) (partsEnd s (i + 1))), none, partsEnd s (i + 1)⟩) := by
    show _ = _
    unfold tokOf
    rw [if_neg (by omega), if_neg (fun k => by cases k.1), if_neg (by omega), if_neg (by rintro (k | k); rw [hc] at k; exact absurd k (by decide); have := k.1; omega), if_pos ⟨hc, h1, hl⟩]
  have h64 : ¬ (i + 1 < s.size ∧ bt s (i + 1) = 64) := fun k => by rw [k.2] at hl; exact absurd hl (by decide)
  have Hc := Lib.hid hc
  have Hl := Lib.hid hl
  have H64 := Lib.hid h64
  clear hc hl h64
  have H := Lib.hid h
  clear h
  go_enter Tryz.func38, Tryz.ntmps38
  go_wp2_with fail
  refine H.out.eof0.mono ?_
  rintro e w' ⟨rfl, n3, rfl⟩
  rw [decide_eq_false (show ¬ s.size ≤ i by omega)]
  go_wp2_with fail
  refine (H.out.peek n3 0 _ rfl hi).mono ?_
  rintro e w' ⟨rfl, n4, rfl⟩
  rw [show bt s (i + 0) = 64 from Hc.out]
  go_wp2_with fail
  refine (H.out.peekIs n4 1 _ 64 rfl (by omega)).mono ?_
  rintro e w' ⟨rfl, n5, rfl⟩
  rw [decide_eq_false (H64.out)]
  go_wp2_with fail
  refine (H.out.peekOk n5 1 _ rfl (by omega)).mono ?_
  rintro e w' ⟨rfl, n6, rfl⟩
  rw [decide_eq_true h1]
  go_wp2_with fail
  refine (H.out.peek n6 1 _ rfl h1).mono ?_
  rintro e w' ⟨rfl, n7, rfl⟩
  go_wp2_with fail
  refine (IdStart_c _ _).mono ?_
  rintro e w' ⟨rfl, hw⟩
  subst hw
  rw [Hl.out]
  go_wp2_with fail
  refine scanA_c s b f i B 1 x w _ _ _ H.out ⟨rfl, rfl, rfl, rfl, 1, rfl, by omega, by omega, rfl, _, rfl⟩ ?_
  intro k hk0 hk hle a' w' hlen hdf h0 h1 hC hdr
  obtain ⟨dr, rfl⟩ := hdr
  obtain ⟨g2, rfl, hg⟩ := act_lit464 a' hlen hdf
  rw [hg] at h0 h1 hC
  rw [h0, h1, hC]
  clear hlen hdf h0 h1 hC hg
  have Hk := Lib.hid hk
  clear hk
  have hx2 := (H.out.dn dr).lx
  have hO2 := (Only.refl b w).dn dr
  have hf2 := (H.out.dn dr).env.file
  obtain ⟨W, hW⟩ : ∃ W, w.drewN dr = W := ⟨_, rfl⟩
  rw [hW] at hx2 hO2 hf2 ⊢
  clear hW
  have c1 := hx2.cell1
  have f1 := hx2.free 1
  have hx3 := hx2.setKind kParam
  have hO3 := hO2.setCell 1 (.string kParam)
  have hf3 : FileAt (W.setCell ⟨b, 1, none⟩ (.string kParam)) f s (.slice none 0 0) := hf2.only ((Only.refl b W).setCell 1 _) H.out.env.ne
  go_upto_region 95 with fail
  obtain ⟨W2, hW2⟩ : ∃ W2, W.setCell ⟨b, 1, none⟩ (.string kParam) = W2 := ⟨_, rfl⟩
  rw [show W.setCell ⟨b, 1, none⟩ (.string { data := #[60, 112, 97, 114, 97, 109, 62] }) = W2 from hW2]
  rw [hW2] at hx3 hO3 hf3
  clear hW2 c1 f1 hx2 hO2 hf2
  refine wp_region_still_tail 23 (by kernel_rfl) (by kernel_rfl) ?_
  simp only [List.take_succ_cons, List.take_zero, List.drop_succ_cons, List.drop_zero]
  have hV := drew_below W2.heap.size W2
  generalize ({ heap := W2.heap, tape := W2.tape, drawn := W2.drawn + 1, os := W2.os, output := W2.output } : World) = V at hV ⊢
  have hxV := hx3.below hV
  have hOV := hO3.trans (Only.of_below (b := b) hV)
  have hfV := hf3.below hV
  have hpos := H.out.pos
  have c0 := hxV.cell0
  have c9 : V.cell? ⟨b, 9, none⟩ = some (.int .i64 i) := by rw [← hpos]; exact hxV.cell9
  have c1f := hfV.cell1
  have c5 := hxV.cell5
  have f5 := hxV.free 5
  obtain ⟨p, hp⟩ : ∃ p, i + 1 = p := ⟨_, rfl⟩
  obtain ⟨q, hq⟩ : ∃ q, i + k = q := ⟨_, rfl⟩
  have hw1 : IntKind.i64.wrap ((i : Int) + 1) = (p : Int) := by rw [IntKind.wrap_i64]; omega
  have hw2 : IntKind.i64.wrap ((i : Int) + (k : Int)) = (q : Int) := by rw [IntKind.wrap_i64]; omega
  have hb1 : p ≤ q := by omega
  have hb2 : q ≤ s.size := by omega
  have hb3 : (0 : Int) ≤ (q : Int) := by omega
  repeat still_step
  refine wpStill_nil ?_
  clear hw1 hw2 hb1 hb2 hb3 c0 c9 c1f
  subst hp hq
  have hx4 := hxV.setText (s.extract (i + 1) (i + k))
  have hO4 := hOV.setCell 5 (.string (s.extract (i + 1) (i + k)))
  go_wp2_with fail
  refine (skipN_c (s := s) (i := i) k (by omega) hle hx4 hpos).mono ?_
  rintro e w' ⟨rfl, hw⟩
  subst hw
  have hx5 := Lib.hid (hx4.setPos ((i + k : Nat) : Int))
  have hO5 := Lib.hid (hO4.setCell 9 (.int .i64 ((i + k : Nat) : Int)))
  clear hx4 hO4 hxV hOV hx3 hO3
  go_wp2_with fail
  refine bodyPost_ret (results_none rfl _ _ _) rfl ?_
  refine step_tok Hspec.out ?_ hx5.out hO5.out
  have hk := Hk.out
  rw [← hk]
  rfl
end Go.Proofs.YtmkkeacbabmaeaaGreatDoor
namespace Go.Proofs.YtmkkeacbabmaeaaGreatDoor
open Go.RowKit Go.PlainAid

theorem markOf_96 {s : ByteArray} {i : Nat} (hi : i < s.size) (hc : bt s i = 96) : markOf s i = ⟨#[96]⟩ := by
  unfold markOf
  rw [extract_one s i hi 96 hc, if_neg (fun k => k.1 (by rw [ByteArray.toList_eq]))]
theorem back_of {s : ByteArray} {i : Nat} {after : Bool} (hi : i < s.size) (hc : bt s i = 96) : tokOf s i false after = backTok s i := by
  unfold tokOf
  rw [if_neg (by omega), if_neg (fun k => by cases k.1), if_pos hc]
set_option maxHeartbeats 8000000 in
set_option maxRecDepth 1000000 in
theorem tok_back (s : ByteArray) (b f i B : Nat) (x : LxS) (w : World) (h : THead s b f i B x w) (hi : i < s.size) (hc : bt s i = 96) :
    Calls Tryz.prog 38 #[.pointer (some ⟨b, 0, none⟩), .bool false] w (Step b f x B (tokStep x (dottedB x.last) (tokOf s i false (dottedB x.last))) w) := by
  have hs := h.env.small
  have Hspec : Hid (tokOf s i false (dottedB x.last) = backTok s i) := back_of hi hc
  have Hm : Hid (quotOf s i false false = quotFrom s ⟨#[96]⟩ false false s.size (i + 1) []) := by show _ = _; rw [quotOf, markOf_96 hi hc]; rfl
  have Hc := Lib.hid hc
  clear hc
  have H := Lib.hid h
  clear h
  go_enter Tryz.func38, Tryz.ntmps38
  go_wp2_with fail
  refine H.out.eof0.mono ?_
  rintro e w' ⟨rfl, n1, rfl⟩
  rw [decide_eq_false (show ¬ s.size ≤ i by omega)]
  go_wp2_with fail
  refine (H.out.peek n1 0 _ rfl hi).mono ?_
  rintro e w' ⟨rfl, n2, rfl⟩
  rw [show bt s (i + 0) = 96 from Hc.out]
  have h3 := (H.out.dn n2).kind kIdent
  have H3 := Lib.hid h3
  have hO3 := ((Only.refl b w).dn n2).setCell 1 (.string kIdent)
  have HO3 := Lib.hid hO3
  have c1 := (H.out.dn n2).lx.cell1
  have f1 := (H.out.dn n2).lx.free 1
  obtain ⟨W, hW⟩ : ∃ W, w.drewN n2 = W := ⟨_, rfl⟩
  rw [hW] at c1 f1 h3 hO3 ⊢
  have H3 := Lib.hid h3
  have HO3 := Lib.hid hO3
  clear hW h3 hO3
  go_wp2_with fail
  have h3 := H3.out
  refine (quoted1_c s ⟨#[96]⟩ _ false true b f i B { x with kind := kIdent } _ true h3.env h3.lx h3.pos h3.ok h3.esc (by show i + 1 ≤ s.size; omega) rfl (by rw [ByteArray.toList_eq]; rfl)).mono ?_
  rintro e w2 k
  have k1 : QuotPost true b f B { x with kind := kIdent } (quotOf s i false false) (W.setCell ⟨b, 1, none⟩ (.string kIdent)) e w2 := by rw [Hm.out]; exact k
  clear k
  rw [Hspec.out]
  unfold backTok
  cases hr : quotOf s i false false with
  | bad n =>
    rw [hr] at k1
    have k3 := Thrown.from HO3.out H.out.lx H.out.env.bb H.out.env.bw (show Thrown B (W.setCell ⟨b, 1, none⟩ (.string kIdent)) e w2 from k1)
    obtain ⟨v, p, rfl, herr, hlow⟩ := k3
    exact ⟨rfl, v, p, rfl, herr, hlow⟩
  | good v n =>
    rw [hr] at k1
    have k2 : if (true && v.isEmpty) = true then Thrown B (W.setCell ⟨b, 1, none⟩ (.string kIdent)) e w2 else e = .returned (.tuple #[.string ⟨v.toArray⟩, .bool false]) ∧ LxAt w2 b f { x with kind := kIdent, pos := (n : Int) } ∧ Only b (W.setCell ⟨b, 1, none⟩ (.string kIdent)) w2 := k1
    have Hr := Lib.hid hr
    clear k1 hr
    cases v with
    | nil =>
      rw [if_pos (by rfl)] at k2
      have k3 := Thrown.from HO3.out H.out.lx H.out.env.bb H.out.env.bw k2
      simp only [if_pos]
      obtain ⟨v, p, rfl, herr, hlow⟩ := k3
      exact ⟨rfl, v, p, rfl, herr, hlow⟩
    | cons a l =>
      rw [if_neg (by simp)] at k2
      obtain ⟨rfl, hl5, hO5⟩ := k2
      have Hl5 := Lib.hid hl5
      have HO5 := Lib.hid (HO3.out.trans hO5)
      have c5 := hl5.cell5
      have f5 := hl5.free 5
      clear hl5 hO5 h3
      go_wp2_with fail
      refine bodyPost_ret (results_none rfl _ _ _) rfl ?_
      exact step_tok (r := ⟨kIdent, some ⟨(a :: l).toArray⟩, none, n⟩) (by rw [Hspec.out, backTok, Hr.out]; exact if_neg (by simp)) rfl (Hl5.out.setText _) (HO5.out.setCell 5 _)
end Go.Proofs.YtmkkeacbabmaeaaGreatDoor
namespace Go.Proofs.YtmkkeacbabmaeaaGreatDoor
open Go.RowKit Go.PlainAid

/-- What the text says of a sign at a place. -/
structure SignOk (s : ByteArray) (i : Nat) : Prop where
  bang : bt s i = 33 → i + 1 < s.size ∧ bt s (i + 1) = 61
  plus : bt s i = 43 ∨ bt s i = 45 → ¬ (i + 1 < s.size ∧ bt s (i + 1) = 61)
set_option maxHeartbeats 1000000 in
/-- The parser's one token is the reference's. -/
theorem consumeToken_c (s : ByteArray) (b f i B : Nat) (x : LxS) (w : World) (h : THead s b f i B x w) (hb0 : x.base = 0) (hS : i < s.size → SignOk s i) (hnb : i < s.size → blankB (bt s i) = false ∧ bt s i ≠ 35) :
    Calls Tryz.prog 38 #[.pointer (some ⟨b, 0, none⟩), .bool false] w (Step b f x B (tokStep x (dottedB x.last) (tokOf s i false (dottedB x.last))) w) := by
  by_cases hi : i = s.size
  · exact tok_eof s b f i B x w h hi
  have hlt : i < s.size := by have := h.le; omega
  obtain ⟨hn1, hn2⟩ := hnb hlt
  have hS := hS hlt
  have hok : bt s i = 9 ∨ bt s i = 10 ∨ (32 ≤ bt s i ∧ bt s i ≤ 126) := of_decide_eq_true (h.ok i hlt)
  have hbl : ¬ (bt s i = 32 ∨ bt s i = 9 ∨ bt s i = 10 ∨ bt s i = 13) := fun k => by
    have : blankB (bt s i) = true := by rcases k with k | k | k | k <;> rw [k] <;> decide
    rw [this] at hn1
    cases hn1
  by_cases c40 : bt s i = 40
  · exact tok_one40 s b f i B x w h hlt c40
  by_cases c41 : bt s i = 41
  · exact tok_one41 s b f i B x w h hlt c41
  by_cases c123 : bt s i = 123
  · exact tok_one123 s b f i B x w h hlt c123
  by_cases c125 : bt s i = 125
  · exact tok_one125 s b f i B x w h hlt c125
  by_cases c59 : bt s i = 59
  · exact tok_one59 s b f i B x w h hlt c59
  by_cases c44 : bt s i = 44
  · exact tok_one44 s b f i B x w h hlt c44
  by_cases c91 : bt s i = 91
  · exact tok_one91 s b f i B x w h hlt c91
  by_cases c93 : bt s i = 93
  · exact tok_one93 s b f i B x w h hlt c93
  by_cases c126 : bt s i = 126
  · exact tok_one126 s b f i B x w h hlt c126
  by_cases c42 : bt s i = 42
  · exact tok_one42 s b f i B x w h hlt c42
  by_cases c47 : bt s i = 47
  · exact tok_one47 s b f i B x w h hlt c47
  by_cases c38 : bt s i = 38
  · exact tok_one38 s b f i B x w h hlt c38
  by_cases c94 : bt s i = 94
  · exact tok_one94 s b f i B x w h hlt c94
  by_cases c37 : bt s i = 37
  · exact tok_one37 s b f i B x w h hlt c37
  by_cases c58 : bt s i = 58
  · exact tok_one58 s b f i B x w h hlt c58
  by_cases c63 : bt s i = 63
  · exact tok_one63 s b f i B x w h hlt c63
  by_cases c92 : bt s i = 92
  · exact tok_one92 s b f i B x w h hlt c92
  by_cases c36 : bt s i = 36
  · exact tok_one36 s b f i B x w h hlt c36
  by_cases c60 : bt s i = 60
  · by_cases t60 : i + 1 < s.size ∧ bt s (i + 1) = 60
    · exact tok_two60_60 s b f i B x w h hlt c60 t60.1 t60.2
    by_cases t61 : i + 1 < s.size ∧ bt s (i + 1) = 61
    · exact tok_two60_61 s b f i B x w h hlt c60 t61.1 t61.2
    by_cases t62 : i + 1 < s.size ∧ bt s (i + 1) = 62
    · exact tok_two60_62 s b f i B x w h hlt c60 t62.1 t62.2
    exact tok_lone60 s b f i B x w h hlt c60 t60 t61 t62
  by_cases c62 : bt s i = 62
  · by_cases t62 : i + 1 < s.size ∧ bt s (i + 1) = 62
    · exact tok_two62_62 s b f i B x w h hlt c62 t62.1 t62.2
    by_cases t61 : i + 1 < s.size ∧ bt s (i + 1) = 61
    · exact tok_two62_61 s b f i B x w h hlt c62 t61.1 t61.2
    exact tok_lone62 s b f i B x w h hlt c62 t62 t61
  by_cases c43 : bt s i = 43
  · have hp := hS.plus (by omega)
    exact tok_lone43 s b f i B x w h hlt c43 hp
  by_cases c45 : bt s i = 45
  · have hp := hS.plus (by omega)
    by_cases t62 : i + 1 < s.size ∧ bt s (i + 1) = 62
    · exact tok_two45_62 s b f i B x w h hlt c45 t62.1 t62.2
    exact tok_lone45 s b f i B x w h hlt c45 hp t62
  by_cases c61 : bt s i = 61
  · by_cases t62 : i + 1 < s.size ∧ bt s (i + 1) = 62
    · exact tok_two61_62 s b f i B x w h hlt c61 t62.1 t62.2
    exact tok_lone61 s b f i B x w h hlt c61 t62
  by_cases c124 : bt s i = 124
  · by_cases t62 : i + 1 < s.size ∧ bt s (i + 1) = 62
    · exact tok_two124_62 s b f i B x w h hlt c124 t62.1 t62.2
    by_cases t124 : i + 1 < s.size ∧ bt s (i + 1) = 124
    · exact tok_two124_124 s b f i B x w h hlt c124 t124.1 t124.2
    exact tok_lone124 s b f i B x w h hlt c124 t62 t124
  by_cases c33 : bt s i = 33
  · exact tok_two33_61 s b f i B x w h hlt c33 (hS.bang c33).1 (hS.bang c33).2
  by_cases c64 : bt s i = 64
  · by_cases t64 : i + 1 < s.size ∧ bt s (i + 1) = 64
    · exact tok_two64_64 s b f i B x w h hlt c64 t64.1 t64.2
    by_cases ha : atName s i
    · exact tok_name s b f i B x w h hlt c64 ha.2.1 ha.2.2
    by_cases h1 : i + 1 < s.size
    · exact tok_at_no s b f i B x w h hlt c64 h1 (fun e => t64 ⟨h1, e⟩) (by cases hl : letterB (bt s (i + 1)) with
        | true => exact absurd ⟨c64, h1, hl⟩ ha
        | false => rfl)
    exact tok_at_end s b f i B x w h hlt c64 h1
  by_cases c46 : bt s i = 46
  · rcases Bool.eq_false_or_eq_true (dottedB x.last) with ha | ha
    · exact tok_dot_dotted s b f i B x w h hlt c46 ha
    · by_cases h1 : i + 1 < s.size
      · rcases Bool.eq_false_or_eq_true (digitB (bt s (i + 1))) with hd | hd
        · exact tok_dot_num s b f i B x w h hlt c46 hb0 ha h1 hd
        · exact tok_dot_sign s b f i B x w h hlt c46 ha h1 hd
      · exact tok_dot_end s b f i B x w h hlt c46 ha h1
  by_cases c96 : bt s i = 96
  · exact tok_back s b f i B x w h hlt c96
  by_cases c48 : bt s i = 48
  · exact tok_dig48 s b f i B x w h hlt hb0 c48
  by_cases c49 : bt s i = 49
  · exact tok_dig49 s b f i B x w h hlt hb0 c49
  by_cases c50 : bt s i = 50
  · exact tok_dig50 s b f i B x w h hlt hb0 c50
  by_cases c51 : bt s i = 51
  · exact tok_dig51 s b f i B x w h hlt hb0 c51
  by_cases c52 : bt s i = 52
  · exact tok_dig52 s b f i B x w h hlt hb0 c52
  by_cases c53 : bt s i = 53
  · exact tok_dig53 s b f i B x w h hlt hb0 c53
  by_cases c54 : bt s i = 54
  · exact tok_dig54 s b f i B x w h hlt hb0 c54
  by_cases c55 : bt s i = 55
  · exact tok_dig55 s b f i B x w h hlt hb0 c55
  by_cases c56 : bt s i = 56
  · exact tok_dig56 s b f i B x w h hlt hb0 c56
  by_cases c57 : bt s i = 57
  · exact tok_dig57 s b f i B x w h hlt hb0 c57
  by_cases c66 : bt s i = 66
  · exact tok_pre66 s b f i B x w h hlt c66
  by_cases c98 : bt s i = 98
  · exact tok_pre98 s b f i B x w h hlt c98
  by_cases c82 : bt s i = 82
  · exact tok_pre82 s b f i B x w h hlt c82
  by_cases c114 : bt s i = 114
  · exact tok_pre114 s b f i B x w h hlt c114
  by_cases c34 : bt s i = 34
  · exact tok_pre34 s b f i B x w h hlt c34
  by_cases c39 : bt s i = 39
  · exact tok_pre39 s b f i B x w h hlt c39
  exact tok_letter s b f i B x w h hlt ((letterB_iff _).2 (by omega)) ⟨c66, c98, c82, c114⟩
end Go.Proofs.YtmkkeacbabmaeaaGreatDoor
namespace Go.Proofs.YtmkkeacbabmaeaaGreatDoor
open Go.RowKit Go.PlainAid

theorem tok_path {s : ByteArray} {i : Nat} {after : Bool} (hi : i < s.size) (hp : partB (bt s i) = true) : tokOf s i true after = some ⟨kIdent, some (s.extract i (partsEnd s i)), none, partsEnd s i⟩ := by
  unfold tokOf
  rw [if_neg (by omega), if_pos ⟨rfl, hp⟩]
theorem tok_nopath {s : ByteArray} {i : Nat} {after : Bool} (hp : i < s.size → partB (bt s i) = false) (hi : i ≤ s.size) : tokOf s i true after = tokOf s i false after := by
  unfold tokOf
  by_cases h : i = s.size
  · rw [if_pos h, if_pos h]
  · rw [if_neg h, if_neg h, if_neg (show ¬ (true = true ∧ partB (bt s i) = true) from fun k => by rw [hp (by omega)] at k; cases k.2), if_neg (show ¬ (false = true ∧ partB (bt s i) = true) from fun k => by cases k.1)]

set_option maxHeartbeats 4000000 in
set_option maxRecDepth 100000 in
theorem consumeField_name (s : ByteArray) (b f i B : Nat) (x : LxS) (after : Bool) (w : World) (h : THead s b f i B x w) (hi : i < s.size) (hp : partB (bt s i) = true) :
    Calls Tryz.prog 37 #[.pointer (some ⟨b, 0, none⟩), .bool false] w (Step b f x B (tokStep x after (tokOf s i true after)) w) := by
  have hs := h.env.small
  have Hspec : Hid (tokOf s i true after = some ⟨kIdent, some (s.extract i (partsEnd s i)), none, partsEnd s i⟩) := tok_path hi hp
  have hok := h.peekOk 0 0 0 rfl (by omega)
  rw [World.drewN_zero, decide_eq_true (show i + 0 < s.size from hi)] at hok
  have Hok := Lib.hid hok
  have H := Lib.hid h
  have Hp := Lib.hid hp
  clear h hp hok
  go_enter Tryz.func37, Tryz.ntmps37
  go_wp2_with fail
  refine Hok.out.mono ?_
  rintro e w' ⟨rfl, n1, rfl⟩
  go_wp2_with fail
  refine (H.out.peek n1 0 _ rfl hi).mono ?_
  rintro e w' ⟨rfl, n2, rfl⟩
  go_wp2_with fail
  refine (IdPart_c _ _).mono ?_
  rintro e w' ⟨rfl, hw⟩
  subst hw
  rw [Hp.out]
  go_wp2_with fail
  go_loopw [4] (fun v4 wr => ∃ k dr : Nat, v4 = .int .i64 k ∧ wr = w.drewN dr ∧ i + k ≤ s.size ∧ Hid (partsEnd s (i + k) = partsEnd s i)) (fun v4 _ => s.size - i - (intOf v4).toNat)
  case atStart => exact ⟨0, n2, rfl, rfl, by omega, rfl⟩
  case round =>
    obtain ⟨k, dr, rfl, rfl, hle, hk⟩ := hrel
    by_cases hlt : i + k < s.size
    · go_wp2_with fail
      refine (H.out.peekOk dr k _ rfl (by omega)).mono ?_
      rintro e w' ⟨rfl, m1, rfl⟩
      rw [decide_eq_true hlt]
      go_wp2_with fail
      refine (H.out.peek m1 k _ rfl hlt).mono ?_
      rintro e w' ⟨rfl, m2, rfl⟩
      go_wp2_with fail
      refine (IdPart_c _ _).mono ?_
      rintro e w' ⟨rfl, hw⟩
      subst hw
      rcases Bool.eq_false_or_eq_true (partB (bt s (i + k))) with hp | hp
      · have hgo : Hid (partsEnd s (i + (k + 1)) = partsEnd s i) := by show _ = _; rw [← hk.out, partsEnd_go hlt hp, Nat.add_assoc]
        rw [hp]
        clear hp hk
        go_wp2_with fail
        refine ⟨⟨k + 1, m2, rfl, rfl, by omega, hgo⟩, ?_⟩
        simp [intOf]
        omega
      · have hend : Hid (i + k = partsEnd s i) := by show _ = _; rw [← hk.out, partsEnd_stop (fun hx => by rw [hp] at hx; cases hx.2)]
        rw [hp]
        clear hp hk
        have hx2 := (H.out.dn m2).lx
        have hO2 := (Only.refl b w).dn m2
        have hf2 := (H.out.dn m2).env.file
        obtain ⟨W, hW⟩ : ∃ W, w.drewN m2 = W := ⟨_, rfl⟩
        rw [hW] at hx2 hO2 hf2 ⊢
        clear hW
        have c1 := hx2.cell1
        have f1 := hx2.free 1
        have hx3 := hx2.setKind kIdent
        have hO3 := hO2.setCell 1 (.string kIdent)
        have hf3 : FileAt (W.setCell ⟨b, 1, none⟩ (.string kIdent)) f s (.slice none 0 0) := hf2.only ((Only.refl b W).setCell 1 _) H.out.env.ne
        go_upto_region 5 with fail
        obtain ⟨W2, hW2⟩ : ∃ W2, W.setCell ⟨b, 1, none⟩ (.string kIdent) = W2 := ⟨_, rfl⟩
        rw [show W.setCell ⟨b, 1, none⟩ (.string { data := #[60, 105, 100, 101, 110, 116, 62] }) = W2 from hW2]
        rw [hW2] at hx3 hO3 hf3
        clear hW2 c1 f1 hx2 hO2 hf2
        refine wp_region_still_tail 22 (by kernel_rfl) (by kernel_rfl) ?_
        simp only [List.take_succ_cons, List.take_zero, List.drop_succ_cons, List.drop_zero]
        have hV := drew_below W2.heap.size W2
        generalize ({ heap := W2.heap, tape := W2.tape, drawn := W2.drawn + 1, os := W2.os, output := W2.output } : World) = V at hV ⊢
        have hxV := hx3.below hV
        have hOV := hO3.trans (Only.of_below (b := b) hV)
        have hfV := hf3.below hV
        have hpos := H.out.pos
        have c0 := hxV.cell0
        have c9 : V.cell? ⟨b, 9, none⟩ = some (.int .i64 i) := by rw [← hpos]; exact hxV.cell9
        have c1f := hfV.cell1
        have c5 := hxV.cell5
        have f5 := hxV.free 5
        obtain ⟨q, hq⟩ : ∃ q, i + k = q := ⟨_, rfl⟩
        have hw2 : IntKind.i64.wrap ((i : Int) + (k : Int)) = (q : Int) := by rw [IntKind.wrap_i64]; omega
        have hb1 : i ≤ q := by omega
        have hb2 : q ≤ s.size := by omega
        have hb3 : (0 : Int) ≤ (q : Int) := by omega
        repeat still_step
        refine wpStill_nil ?_
        clear hw2 hb1 hb2 hb3 c0 c9 c1f
        subst hq
        have hx4 := hxV.setText (s.extract i (i + k))
        have hO4 := hOV.setCell 5 (.string (s.extract i (i + k)))
        go_wp2_with fail
        refine (skipN_c (s := s) (i := i) k (by omega) hle hx4 hpos).mono ?_
        rintro e w' ⟨rfl, hw⟩
        subst hw
        have hx5 := Lib.hid (hx4.setPos ((i + k : Nat) : Int))
        have hO5 := Lib.hid (hO4.setCell 9 (.int .i64 ((i + k : Nat) : Int)))
        clear hx4 hO4 hxV hOV hx3 hO3
        go_wp2_with fail
        refine bodyPost_ret (results_none rfl _ _ _) rfl ?_
        refine step_tok Hspec.out ?_ hx5.out hO5.out
        rw [← hend.out]
        rfl
    · have hend : Hid (i + k = partsEnd s i) := by show _ = _; rw [← hk.out, partsEnd_stop (fun hx => hlt hx.1)]
      clear hk
      go_wp2_with fail
      refine (H.out.peekOk dr k _ rfl (by omega)).mono ?_
      rintro e w' ⟨rfl, m2, rfl⟩
      rw [decide_eq_false hlt]
      have hx2 := (H.out.dn m2).lx
      have hO2 := (Only.refl b w).dn m2
      have hf2 := (H.out.dn m2).env.file
      obtain ⟨W, hW⟩ : ∃ W, w.drewN m2 = W := ⟨_, rfl⟩
      rw [hW] at hx2 hO2 hf2 ⊢
      clear hW
      have c1 := hx2.cell1
      have f1 := hx2.free 1
      have hx3 := hx2.setKind kIdent
      have hO3 := hO2.setCell 1 (.string kIdent)
      have hf3 : FileAt (W.setCell ⟨b, 1, none⟩ (.string kIdent)) f s (.slice none 0 0) := hf2.only ((Only.refl b W).setCell 1 _) H.out.env.ne
      go_upto_region 5 with fail
      obtain ⟨W2, hW2⟩ : ∃ W2, W.setCell ⟨b, 1, none⟩ (.string kIdent) = W2 := ⟨_, rfl⟩
      rw [show W.setCell ⟨b, 1, none⟩ (.string { data := #[60, 105, 100, 101, 110, 116, 62] }) = W2 from hW2]
      rw [hW2] at hx3 hO3 hf3
      clear hW2 c1 f1 hx2 hO2 hf2
      refine wp_region_still_tail 22 (by kernel_rfl) (by kernel_rfl) ?_
      simp only [List.take_succ_cons, List.take_zero, List.drop_succ_cons, List.drop_zero]
      have hV := drew_below W2.heap.size W2
      generalize ({ heap := W2.heap, tape := W2.tape, drawn := W2.drawn + 1, os := W2.os, output := W2.output } : World) = V at hV ⊢
      have hxV := hx3.below hV
      have hOV := hO3.trans (Only.of_below (b := b) hV)
      have hfV := hf3.below hV
      have hpos := H.out.pos
      have c0 := hxV.cell0
      have c9 : V.cell? ⟨b, 9, none⟩ = some (.int .i64 i) := by rw [← hpos]; exact hxV.cell9
      have c1f := hfV.cell1
      have c5 := hxV.cell5
      have f5 := hxV.free 5
      obtain ⟨q, hq⟩ : ∃ q, i + k = q := ⟨_, rfl⟩
      have hw2 : IntKind.i64.wrap ((i : Int) + (k : Int)) = (q : Int) := by rw [IntKind.wrap_i64]; omega
      have hb1 : i ≤ q := by omega
      have hb2 : q ≤ s.size := by omega
      have hb3 : (0 : Int) ≤ (q : Int) := by omega
      repeat still_step
      refine wpStill_nil ?_
      clear hw2 hb1 hb2 hb3 c0 c9 c1f
      subst hq
      have hx4 := hxV.setText (s.extract i (i + k))
      have hO4 := hOV.setCell 5 (.string (s.extract i (i + k)))
      go_wp2_with fail
      refine (skipN_c (s := s) (i := i) k (by omega) hle hx4 hpos).mono ?_
      rintro e w' ⟨rfl, hw⟩
      subst hw
      have hx5 := Lib.hid (hx4.setPos ((i + k : Nat) : Int))
      have hO5 := Lib.hid (hO4.setCell 9 (.int .i64 ((i + k : Nat) : Int)))
      clear hx4 hO4 hxV hOV hx3 hO3
      go_wp2_with fail
      refine bodyPost_ret (results_none rfl _ _ _) rfl ?_
      refine step_tok Hspec.out ?_ hx5.out hO5.out
      rw [← hend.out]
      rfl

set_option maxHeartbeats 4000000 in
set_option maxRecDepth 100000 in
theorem consumeField_c (s : ByteArray) (b f i B : Nat) (x : LxS) (w : World) (h : THead s b f i B x w) (hb0 : x.base = 0) (hS : i < s.size → SignOk s i) (hnb : i < s.size → blankB (bt s i) = false ∧ bt s i ≠ 35) :
    Calls Tryz.prog 37 #[.pointer (some ⟨b, 0, none⟩), .bool false] w (Step b f x B (tokStep x (dottedB x.last) (tokOf s i true (dottedB x.last))) w) := by
  by_cases hpi : i < s.size ∧ partB (bt s i) = true
  · exact consumeField_name s b f i B x _ w h hpi.1 hpi.2
  have hle := h.le
  have hpf : i < s.size → partB (bt s i) = false := fun hlt => by
    cases hq : partB (bt s i) with
    | true => exact absurd ⟨hlt, hq⟩ hpi
    | false => rfl
  rw [tok_nopath hpf hle]
  have Hct := Lib.hid (fun n => consumeToken_c s b f i B x (w.drewN n) (h.dn n) hb0 hS hnb)
  have hok := h.peekOk 0 0 0 rfl (by omega)
  rw [World.drewN_zero] at hok
  have Hok := Lib.hid hok
  have H := Lib.hid h
  have Hpf := Lib.hid hpf
  clear h hok hpf hS hnb hpi
  go_enter Tryz.func37, Tryz.ntmps37
  go_wp2_with fail
  refine Hok.out.mono ?_
  rintro e w' ⟨rfl, n1, rfl⟩
  by_cases hi : i < s.size
  · rw [decide_eq_true (show i + 0 < s.size from hi)]
    go_wp2_with fail
    refine (H.out.peek n1 0 _ rfl hi).mono ?_
    rintro e w' ⟨rfl, n2, rfl⟩
    go_wp2_with fail
    refine (IdPart_c _ _).mono ?_
    rintro e w' ⟨rfl, hw⟩
    subst hw
    rw [Hpf.out hi]
    go_wp2_with fail
    refine (Hct.out n2).mono ?_
    rintro e w' k
    have k2 := k.low (y := x) ((Only.refl b w).dn _) H.out.lx H.out.env.bb H.out.env.bw
    clear k
    rcases k2.shape with rfl | ⟨v, rfl⟩
    · go_wp2_with fail
      go_end0
      exact k2
    · exact ⟨rfl, k2⟩
  · rw [decide_eq_false (show ¬ i + 0 < s.size from hi)]
    go_wp2_with fail
    refine (Hct.out n1).mono ?_
    rintro e w' k
    have k2 := k.low (y := x) ((Only.refl b w).dn _) H.out.lx H.out.env.bb H.out.env.bw
    clear k
    rcases k2.shape with rfl | ⟨v, rfl⟩
    · go_wp2_with fail
      go_end0
      exact k2
    · exact ⟨rfl, k2⟩
end Go.Proofs.YtmkkeacbabmaeaaGreatDoor
namespace Go.Proofs.YtmkkeacbabmaeaaGreatDoor
open Go.RowKit Go.PlainAid

theorem info_cmt : (Tryz.prog.info? 50).map (fun i => (i.zero, i.size, i.bytes)) = some (some (.agg #[.string ⟨#[]⟩, .string ⟨#[]⟩, .int .i64 0, .int .i64 0]), 4, 48) := by kernel_rfl
theorem info_tok : (Tryz.prog.info? 31).map (fun i => (i.zero, i.size, i.bytes)) = some (some (.agg #[.string ⟨#[]⟩, .string ⟨#[]⟩, .string ⟨#[]⟩, .string ⟨#[]⟩, .int .i64 0, .int .i64 0, .int .i64 0, .slice none 0 0]), 8, 112) := by kernel_rfl

def cmtCells (c : CmtD) : List Value := [.string c.space, .string c.raw, .int .i64 c.pos, .int .i64 c.stop]
def tokCells (p : TokD × Value) : List Value := [.string p.1.kind, .string p.1.space, .string p.1.raw, .string p.1.text, .int .i64 p.1.base, .int .i64 p.1.pos, .int .i64 p.1.stop, p.2]
def CmtRow (w : World) (B : Nat) (v : Value) (cs : List CmtD) : Prop := w.ownsRow B 50 4 v cs.length (cs.flatMap cmtCells) ∧ ∃ A c, v = .slice A cs.length c
def TokRow (w : World) (B : Nat) (v : Value) (ts : List (TokD × Value)) : Prop := w.ownsRow B 31 8 v ts.length (ts.flatMap tokCells) ∧ ∀ p ∈ ts, CmtRow w B p.2 p.1.comments

/-- Two rows of unlike elements lie in unlike blocks. -/
theorem own_tags {w : World} {B1 B2 e1 e2 s1 s2 n1 n2 : Nat} {v1 v2 : Value} {x1 x2 : List Value} (h1 : w.ownsRow B1 e1 s1 v1 n1 x1) (h2 : w.ownsRow B2 e2 s2 v2 n2 x2) (hne : e1 ≠ e2) : v1.ownBlock = none ∨ v1.ownBlock ≠ v2.ownBlock := by
  rcases h1.2 with ⟨rfl, _⟩ | ⟨g, cap, cur, rfl, _, hg, _⟩
  · left; rfl
  · right
    rcases h2.2 with ⟨rfl, _⟩ | ⟨g', cap', cur', rfl, _, hg', _⟩
    · simp [Value.ownBlock]
    · intro h
      simp [Value.ownBlock] at h
      subst h
      rw [hg] at hg'
      cases hg'
      exact hne rfl
/-- A row's block is none that bears another tag. -/
theorem own_tag_ne {w : World} {B e s n b : Nat} {v : Value} {xs : List Value} {C : Array Value} {T : TypeId} {fr : Nat × Nat} (h : w.ownsRow B e s v n xs) (hb : w.heap[b]? = some (.cells C T fr)) (hne : e ≠ T) : v.ownBlock ≠ some b := by
  rcases h.2 with ⟨rfl, _⟩ | ⟨g, cap, cur, rfl, _, hg, _⟩
  · simp [Value.ownBlock]
  · intro k
    simp [Value.ownBlock] at k
    subst k
    rw [hg] at hb
    cases hb
    exact hne rfl
theorem own_set_other {w : World} {B e s n b j : Nat} {v x : Value} {xs : List Value} (h : w.ownsRow B e s v n xs) (hb : v.ownBlock ≠ some b) : (w.setCell ⟨b, j, none⟩ x).ownsRow B e s v n xs :=
  h.kept (row := some b) ⟨rfl, rfl, rfl, by simp [World.setCell], fun k _ hk => Below.heap_setCell _ _ _ _ (fun e => hk (by rw [e]))⟩ (Or.inr hb)
theorem own_base {w : World} {B B' e s n : Nat} {v : Value} {xs : List Value} (h : w.ownsRow B e s v n xs) (hB : B' ≤ B) : w.ownsRow B' e s v n xs := by
  refine ⟨h.1, ?_⟩
  rcases h.2 with k | ⟨g, cap, cur, hv, hg, r⟩
  · exact Or.inl k
  · exact Or.inr ⟨g, cap, cur, hv, Nat.le_trans hB hg, r⟩
theorem own_below' {w w' : World} {B e s n : Nat} {v : Value} {xs : List Value} (h : w.ownsRow B e s v n xs) (hb : Below w.heap.size w w') : w'.ownsRow B e s v n xs :=
  h.kept (row := none) ⟨hb.os, hb.tape, hb.output, hb.size, fun k hk _ => hb.block k hk⟩ (by cases v.ownBlock <;> simp)

theorem CmtRow.nil (w : World) (B : Nat) : CmtRow w B (.slice none 0 0) [] := ⟨World.ownsRow_nil _ _ _ _, none, 0, rfl⟩
theorem CmtRow.below {w w' : World} {B : Nat} {v : Value} {cs : List CmtD} (h : CmtRow w B v cs) (hb : Below w.heap.size w w') : CmtRow w' B v cs := ⟨own_below' h.1 hb, h.2⟩
theorem CmtRow.base {w : World} {B B' : Nat} {v : Value} {cs : List CmtD} (h : CmtRow w B v cs) (hB : B' ≤ B) : CmtRow w B' v cs := ⟨own_base h.1 hB, h.2⟩
theorem CmtRow.only {w w' : World} {B b : Nat} {v : Value} {cs : List CmtD} {x : TokS} (h : CmtRow w B v cs) (ht : TokAt w b x) (hb : Only b w w') : CmtRow w' B v cs :=
  ⟨h.1.kept (row := some b) ⟨hb.os, hb.tape, hb.output, hb.size, fun k hk hne => hb.block k hk (fun e => hne (by rw [e]))⟩ (Or.inr (own_tag_ne h.1 ht (by decide))), h.2⟩
theorem TokRow.nil (w : World) (B : Nat) : TokRow w B (.slice none 0 0) [] := ⟨World.ownsRow_nil _ _ _ _, fun p hp => by cases hp⟩
theorem TokRow.below {w w' : World} {B : Nat} {v : Value} {ts : List (TokD × Value)} (h : TokRow w B v ts) (hb : Below w.heap.size w w') : TokRow w' B v ts := ⟨own_below' h.1 hb, fun p hp => (h.2 p hp).below hb⟩

/-- Behind the append of a comment. -/
theorem cmt_push {w1 : World} {B g cap : Nat} {cs : List CmtD} {c : CmtD} {n : Nat} {xs : List Value} (hn : n = cs.length + 1) (hx : xs = cs.flatMap cmtCells ++ cmtCells c)
    (h : w1.ownsRow B 50 4 (.slice (some ⟨g, 0, none⟩) n cap) n xs) : CmtRow w1 B (.slice (some ⟨g, 0, none⟩) n cap) (cs ++ [c]) := by
  subst hn; subst hx
  refine ⟨?_, some ⟨g, 0, none⟩, cap, by simp⟩
  simpa [List.length_append, List.flatMap_append] using h

/-- Behind the append of a token. -/
theorem tok_push {w w1 : World} {B g cap : Nat} {v cv : Value} {ts : List (TokD × Value)} {t : TokD} {n : Nat} {xs : List Value} (hT : TokRow w B v ts) (hC : CmtRow w B cv t.comments) (hn : n = ts.length + 1) (hx : xs = ts.flatMap tokCells ++ tokCells (t, cv))
    (h : w1.ownsRow B 31 8 (.slice (some ⟨g, 0, none⟩) n cap) n xs) (hg : w.grownBy w1 v.ownBlock) : TokRow w1 B (.slice (some ⟨g, 0, none⟩) n cap) (ts ++ [(t, cv)]) := by
  subst hn; subst hx
  refine ⟨?_, ?_⟩
  · simpa [List.length_append, List.flatMap_append] using h
  · have keep : ∀ (u : Value) (ks : List CmtD), CmtRow w B u ks → CmtRow w1 B u ks := fun u ks hu => ⟨hu.1.kept hg (own_tags hu.1 hT.1 (by decide)), hu.2⟩
    intro p hp
    rcases List.mem_append.1 hp with hp | hp
    · exact keep _ _ (hT.2 p hp)
    · simp at hp; subst hp; exact keep _ _ hC

/-- A token's kind, read in the list. -/
theorem tokRow_kind {w : World} {B g n cap : Nat} {ts : List (TokD × Value)} (h : TokRow w B (.slice (some ⟨g, 0, none⟩) n cap) ts) (j : Nat) (hj : j < ts.length) : w.cell? ⟨g, j * 8, none⟩ = some (.string (ts[j]'hj).1.kind) := by
  have hc := h.1.cells (g := g) rfl (j * 8) (.string (ts[j]'hj).1.kind) ?_
  · rwa [add_off] at hc
  · have aux : ∀ (l : List (TokD × Value)) (k : Nat) (hk : k < l.length), (l.flatMap tokCells)[k * 8]? = some (.string (l[k]'hk).1.kind) := by
      intro l
      induction l with
      | nil => intro k hk; cases hk
      | cons a l ih =>
        intro k hk
        cases k with
        | zero => rfl
        | succ k =>
          rw [List.flatMap_cons, List.getElem?_append_right (by simp [tokCells]; omega)]
          have : (k + 1) * 8 - (tokCells a).length = k * 8 := by simp [tokCells]; omega
          rw [this]
          exact ih k (by simpa using hk)
    exact aux ts j hj

theorem lastKind_eq {ts : List (TokD × Value)} {m : Nat} (h : ts.length = m + 1) : lastKind (ts.map Prod.fst) = (ts[m]'(by omega)).1.kind := by
  have hne : (ts.map Prod.fst) ≠ [] := by intro e; rw [List.map_eq_nil_iff] at e; rw [e] at h; cases h
  have hl : (ts.map Prod.fst).length - 1 = m := by simp; omega
  unfold lastKind
  rw [List.getLast?_eq_getElem?, hl, List.getElem?_map, List.getElem?_eq_getElem (by omega)]
  rfl
theorem pathB_nil : pathB [] = false := by decide +kernel
theorem afterB_nil : afterB [] = false := by decide +kernel
theorem pathB_one {ts : List (TokD × Value)} (h : ts.length = 1) : pathB (ts.map Prod.fst) = false := by
  unfold pathB
  have : decide (1 < (ts.map Prod.fst).length) = false := by simp; omega
  rw [this]; simp
theorem pathB_two {ts : List (TokD × Value)} {q : Nat} (h : ts.length = q + 2) : pathB (ts.map Prod.fst) = ((ts[q + 1]'(by omega)).1.kind.toList == [46] && dottedB (ts[q]'(by omega)).1.kind) := by
  unfold pathB
  have h1 : decide (1 < (ts.map Prod.fst).length) = true := by simp; omega
  have h2 : (ts.map Prod.fst).length - 2 = q := by simp; omega
  have h3 : kindAt (ts.map Prod.fst) q = (ts[q]'(by omega)).1.kind := by
    unfold kindAt
    rw [List.getElem?_map, List.getElem?_eq_getElem (by omega)]
    rfl
  rw [h1, h2, h3, lastKind_eq (m := q + 1) (by omega), Bool.and_true]
end Go.Proofs.YtmkkeacbabmaeaaGreatDoor
namespace Go.Proofs.YtmkkeacbabmaeaaGreatDoor
open Go.RowKit Go.PlainAid

/-- What a skip of a comment leaves. -/
def CmtPost (b f : Nat) (x : LxS) (B : Nat) (o : Option Nat) (w : World) (e : Ending) (w' : World) : Prop :=
  match o with
  | some n => e = .returned (.bool false) ∧ LxAt w' b f { x with pos := (n : Int) } ∧ Only b w w'
  | none => Thrown B w e w'
theorem CmtPost.shape {b f : Nat} {x : LxS} {B : Nat} {o : Option Nat} {w : World} {e : Ending} {w' : World} (h : CmtPost b f x B o w e w') :
    e = .returned (.bool false) ∨ ∃ v, e = .panicked [{ v := .iface 57 v, recovered := false }] := by
  cases o with
  | some n => exact Or.inl h.1
  | none => obtain ⟨v, p, h1, _⟩ := h; exact Or.inr ⟨v, h1⟩
/-- The byte at a place as a rune; at the text's end the replacement rune. -/
def runeAt (s : ByteArray) (i : Nat) : Int := if i < s.size then bt s i else 65533
def widthAt (s : ByteArray) (i : Nat) : Int := if i < s.size then 1 else 0
theorem decode_c (s : ByteArray) (i : Nat) (W : World) (hi : i ≤ s.size) (ha : i < s.size → bt s i < 128) :
    Calls Tryz.prog 47 #[.string (s.extract i s.size)] W fun e w' => e = .returned (.tuple #[.int .i32 (runeAt s i), .int .i64 (widthAt s i)]) ∧ w' = W := by
  unfold runeAt widthAt
  by_cases h : i < s.size
  · rw [if_pos h, if_pos h]; exact decodeAt_c s i W h (ha h)
  · rw [if_neg h, if_neg h]
    have e : s.extract i s.size = ⟨#[]⟩ := by
      apply ByteArray.ext
      rw [ByteArray.data_extract]
      have hz : i = s.size := by omega
      rw [hz]
      simp
    rw [e]; exact decodeEnd_c W

section
variable {s : ByteArray} {i : Nat}
theorem cmt_hash (h : runeAt s i = 35) : commentEnd s i = some ((untilEnd s ⟨#[10]⟩ i).getD s.size) := by
  unfold runeAt at h
  split at h
  · rename_i hlt
    rw [until_line s i (Nat.le_of_lt hlt)]
    unfold commentEnd
    rw [if_pos (Or.inl (by rw [starts_one s i 35 hlt]; exact decide_eq_true h))]
  · omega
theorem cmt_dash (h : runeAt s i = 45) (h1 : i + 1 < s.size ∧ bt s (i + 1) = 45) : commentEnd s i = some ((untilEnd s ⟨#[10]⟩ i).getD s.size) := by
  unfold runeAt at h
  split at h
  · rename_i hlt
    rw [until_line s i (Nat.le_of_lt hlt)]
    unfold commentEnd
    rw [if_pos (Or.inr (by rw [starts_two s i 45 45]; exact decide_eq_true ⟨h1.1, h, h1.2⟩))]
  · omega
theorem cmt_star (h : runeAt s i = 47) (h1 : i + 1 < s.size ∧ bt s (i + 1) = 42) (hno : ∀ j, startsB s j ⟨#[47, 42, 47]⟩ = false) : commentEnd s i = untilEnd s ⟨#[42, 47]⟩ i := by
  unfold runeAt at h
  split at h
  · rename_i hlt
    have e1 : startsB s i ⟨#[42, 47]⟩ = false := by rw [starts_two s i 42 47]; exact decide_eq_false (fun k => by have := k.2.1; rw [h] at this; exact absurd this (by decide))
    have e2 : startsB s (i + 1) ⟨#[42, 47]⟩ = false := by
      rw [starts_two s (i + 1) 42 47]
      refine decide_eq_false (fun k => ?_)
      have hn := hno i
      have : startsB s i ⟨#[47, 42, 47]⟩ = true := by
        unfold startsB
        simp only [Bool.and_eq_true, decide_eq_true_eq, beq_iff_eq]
        have hz : (ByteArray.mk #[47, 42, 47]).size = 3 := rfl
        have hl : (ByteArray.mk #[47, 42, 47]).toList = [47, 42, 47] := by rw [ByteArray.toList_eq]
        have b0 := get_bt s i hlt
        have b1 := get_bt s (i + 1) h1.1
        have b2 := get_bt s (i + 1 + 1) k.1
        have b0 := b0.trans h
        have b1 := b1.trans h1.2
        have b2 := b2.trans k.2.2
        refine ⟨by rw [hz]; have := k.1; omega, ?_⟩
        rw [hz, hl, ByteArray.toList_eq, ByteArray.data_extract, Array.toList_extract, List.extract_eq_take_drop]
        have e3 : i + 3 - i = 3 := by omega
        rw [e3]
        have hk := k.1
        have hlen : s.data.toList.length = s.size := Array.length_toList
        rw [List.drop_eq_getElem_cons (by omega), List.drop_eq_getElem_cons (by omega), List.drop_eq_getElem_cons (by omega)]
        have g0 : s.data.toList[i]'(by omega) = 47 := UInt8.toNat_inj.1 (by have : ((s.data.toList[i]'(by omega)).toNat : Int) = 47 := b0; show _ = 47; omega)
        have g1 : s.data.toList[i + 1]'(by omega) = 42 := UInt8.toNat_inj.1 (by have : ((s.data.toList[i + 1]'(by omega)).toNat : Int) = 42 := b1; show _ = 42; omega)
        have g2 : s.data.toList[i + 1 + 1]'(by omega) = 47 := UInt8.toNat_inj.1 (by have : ((s.data.toList[i + 1 + 1]'(by omega)).toNat : Int) = 47 := b2; show _ = 47; omega)
        simp [g0, g1, g2]
      rw [this] at hn
      cases hn
    rw [untilEnd_go hlt e1, untilEnd_go h1.1 e2, until_star]
    unfold commentEnd
    rw [if_neg, if_pos]
    · rw [starts_two s i 47 42]; exact decide_eq_true ⟨h1.1, h, h1.2⟩
    · rw [starts_one s i 35 hlt, starts_two s i 45 45]
      rintro (k | k)
      · have := of_decide_eq_true k
        rw [h] at this
        exact absurd this (by decide)
      · have := (of_decide_eq_true k).2.1
        rw [h] at this
        exact absurd this (by decide)
  · omega
theorem cmt_none (h1 : runeAt s i ≠ 35) (h2 : ¬ (runeAt s i = 45 ∧ i + 1 < s.size ∧ bt s (i + 1) = 45)) (h3 : ¬ (runeAt s i = 47 ∧ i + 1 < s.size ∧ bt s (i + 1) = 42)) : commentEnd s i = some i := by
  unfold commentEnd
  have hr : i < s.size → runeAt s i = bt s i := fun h => by unfold runeAt; rw [if_pos h]
  rw [if_neg, if_neg]
  · rw [starts_two s i 47 42]
    intro k
    have k := of_decide_eq_true k
    exact h3 ⟨by rw [hr (by omega)]; exact k.2.1, k.1, k.2.2⟩
  · rintro (k | k)
    · have hl := startsB_le k
      have hz : (ByteArray.mk #[35]).size = 1 := rfl
      have hlt : i < s.size := by omega
      rw [starts_one s i 35 hlt] at k
      exact h1 (by rw [hr hlt]; exact of_decide_eq_true k)
    · rw [starts_two s i 45 45] at k
      have k := of_decide_eq_true k
      exact h2 ⟨by rw [hr (by omega)]; exact k.2.1, k.1, k.2.2⟩
end

set_option maxHeartbeats 4000000 in
set_option maxRecDepth 100000 in
theorem skipComment_c (s : ByteArray) (b f i B : Nat) (x : LxS) (w : World) (hi : i ≤ s.size) (hok : ∀ j, j < s.size → okB (bt s j) = true) (hno : ∀ j, startsB s j ⟨#[47, 42, 47]⟩ = false) (hx : LxAt w b f x) (hp : x.pos = i) (hE : Env s b f B w) :
    Calls Tryz.prog 36 #[.pointer (some ⟨b, 0, none⟩), .bool false] w (CmtPost b f x B (commentEnd s i) w) := by
  have ha : i < s.size → bt s i < 128 := fun h => by
    have h2 : bt s i = 9 ∨ bt s i = 10 ∨ (32 ≤ bt s i ∧ bt s i ≤ 126) := of_decide_eq_true (hok i h)
    omega
  have Hdec := Lib.hid (fun W => decode_c s i W hi ha)
  obtain ⟨c, hc⟩ : ∃ c, runeAt s i = c := ⟨_, rfl⟩
  obtain ⟨d1, hd1⟩ : ∃ d, decide (i + 1 < s.size ∧ bt s (i + 1) = 45) = d := ⟨_, rfl⟩
  obtain ⟨d2, hd2⟩ : ∃ d, decide (i + 1 < s.size ∧ bt s (i + 1) = 42) = d := ⟨_, rfl⟩
  have hs := hE.small
  have hX : ∀ n, LxAt (w.drewN n) b f x := fun n => hx
  have hO : ∀ n, Only b w (w.drewN n) := fun n => (Only.refl b w).dn n
  have hI1 := fun n => peekIs_c (w := w.drewN n) 1 45 (by omega) (by omega) hi (hX n) (hE.only (hO n)).file hp
  have hI2 := fun n => peekIs_c (w := w.drewN n) 1 42 (by omega) (by omega) hi (hX n) (hE.only (hO n)).file hp
  simp only [hd1] at hI1
  simp only [hd2] at hI2
  have HI1 := Lib.hid hI1
  have HI2 := Lib.hid hI2
  have HL := Lib.hid (fun n => skipUntil_c s ⟨#[10]⟩ false b f i B x (w.drewN n) hs (by decide) hi (hX n) hp (hE.only (hO n)))
  have HS := Lib.hid (fun n => skipUntil_c s ⟨#[42, 47]⟩ true b f i B x (w.drewN n) hs (by decide) hi (hX n) hp (hE.only (hO n)))
  have hline : Hid (commentEnd s i = some ((untilEnd s ⟨#[10]⟩ i).getD s.size) → ∀ n e w', UntilPost b f x B s false (untilEnd s ⟨#[10]⟩ i) (w.drewN n) e w' → CmtPost b f x B (commentEnd s i) w e w') := by
    intro h n e w' k
    rw [h]
    show _ ∧ _ ∧ _
    cases hu : untilEnd s ⟨#[10]⟩ i with
    | none => rw [hu] at k; exact ⟨k.1, k.2.1, (hO n).trans k.2.2⟩
    | some m => rw [hu] at k; exact ⟨k.1, k.2.1, (hO n).trans k.2.2⟩
  have hstar : Hid (commentEnd s i = untilEnd s ⟨#[42, 47]⟩ i → ∀ n e w', UntilPost b f x B s true (untilEnd s ⟨#[42, 47]⟩ i) (w.drewN n) e w' → CmtPost b f x B (commentEnd s i) w e w') := by
    intro h n e w' k
    rw [h]
    cases hu : untilEnd s ⟨#[42, 47]⟩ i with
    | none => rw [hu] at k; exact Thrown.fromB (below_dn _ w n) hE.bw k
    | some m => rw [hu] at k; exact ⟨k.1, k.2.1, (hO n).trans k.2.2⟩
  have c0 := hx.cell0
  have c9 := hx.cell9
  rw [hp] at c9
  have c1 := hE.file.cell1
  have HN := Lib.hid hno
  have HX := Lib.hid hx
  have HP := Lib.hid hp
  clear hok hno ha hx hE hI1 hI2 hX hp
  go_enter Tryz.func36, Tryz.ntmps36
  go_wp2_with fail
  go_quiet ((go_at_call 47; refine Calls.quiet_of_same (Hdec.out _)))
  rw [hc]
  clear c0 c9 c1 Hdec
  by_cases g1 : c = 35
  · subst g1
    go_wp2_with fail
    refine (HL.out _).mono ?_
    rintro e w' k
    have k2 := hline.out (cmt_hash hc) _ _ _ k
    clear k
    rcases k2.shape with rfl | ⟨v, rfl⟩
    · go_wp2_with fail
      go_ret
      exact k2
    · exact ⟨rfl, k2⟩
  · have q1 : (c == 35) = false := by simpa using g1
    by_cases g2 : c = 45
    · subst g2
      cases d1 with
      | true =>
        have hce := Lib.hid (cmt_dash hc (of_decide_eq_true hd1))
        go_wp2_with fail
        refine (HI1.out _).mono ?_
        rintro e w' ⟨rfl, n', rfl⟩
        go_wp2_with fail
        refine (HL.out _).mono ?_
        rintro e w' k
        have k2 := hline.out hce.out _ _ _ k
        clear k hce
        rcases k2.shape with rfl | ⟨v, rfl⟩
        · go_wp2_with fail
          go_ret
          exact k2
        · exact ⟨rfl, k2⟩
      | false =>
        have Hce := Lib.hid (cmt_none (s := s) (i := i) (by rw [hc]; decide) (fun k => of_decide_eq_false hd1 k.2) (by rw [hc]; intro k; exact absurd k.1 (by decide)))
        go_wp2_with fail
        refine (HI1.out _).mono ?_
        rintro e w' ⟨rfl, n', rfl⟩
        go_wp2_with fail
        go_ret
        rw [Hce.out]
        exact ⟨rfl, by have := (HX.out); rw [← HP.out]; exact this, hO _⟩
    · have q2 : (c == 45) = false := by simpa using g2
      by_cases g3 : c = 47
      · subst g3
        cases d2 with
        | true =>
          have hce := Lib.hid (cmt_star hc (of_decide_eq_true hd2) HN.out)
          go_wp2_with fail
          refine (HI2.out _).mono ?_
          rintro e w' ⟨rfl, n', rfl⟩
          go_wp2_with fail
          refine (HS.out _).mono ?_
          rintro e w' k
          have k2 := hstar.out hce.out _ _ _ k
          clear k hce
          rcases k2.shape with rfl | ⟨v, rfl⟩
          · go_wp2_with fail
            go_ret
            exact k2
          · exact ⟨rfl, k2⟩
        | false =>
          have Hce := Lib.hid (cmt_none (s := s) (i := i) (by rw [hc]; decide) (by rw [hc]; intro k; exact absurd k.1 (by decide)) (fun k => of_decide_eq_false hd2 k.2))
          go_wp2_with fail
          refine (HI2.out _).mono ?_
          rintro e w' ⟨rfl, n', rfl⟩
          go_wp2_with fail
          go_ret
          rw [Hce.out]
          exact ⟨rfl, by have := (HX.out); rw [← HP.out]; exact this, hO _⟩
      · have q3 : (c == 47) = false := by simpa using g3
        have Hce := Lib.hid (cmt_none (s := s) (i := i) (by rw [hc]; exact g1) (fun k => g2 (by rw [← hc]; exact k.1)) (fun k => g3 (by rw [← hc]; exact k.1)))
        go_wp2_with fail
        go_ret
        rw [Hce.out]
        exact ⟨rfl, by have := (HX.out); rw [← HP.out]; exact this, hO _⟩
end Go.Proofs.YtmkkeacbabmaeaaGreatDoor
namespace Go.Proofs.YtmkkeacbabmaeaaGreatDoor
open Go.RowKit Go.PlainAid

/-- What is asked of a text. -/
structure TextOk (s : ByteArray) : Prop where
  small : s.size ≤ 4096
  ok : ∀ k, k < s.size → okB (bt s k) = true
  esc : ∀ k, k < s.size → bt s k = 92 → k + 10 ≤ s.size ∧ bt s (k + 1) ≠ 10
  sign : ∀ k, k < s.size → SignOk s k
  nost : ∀ j, startsB s j ⟨#[47, 42, 47]⟩ = false

theorem info_tc : (Tryz.prog.info? 68).map (fun i => (i.zero, i.size, i.bytes)) = some (some (.agg #[.string ⟨#[]⟩, .string ⟨#[]⟩, .int .i64 0, .int .i64 0]), 4, 48) := by kernel_rfl
def MRow (w : World) (B : Nat) (v : Value) (cs : List CmtD) : Prop := w.ownsRow B 68 4 v cs.length (cs.flatMap cmtCells) ∧ ∃ A c, v = .slice A cs.length c
theorem MRow.nil (w : World) (B : Nat) : MRow w B (.slice none 0 0) [] := ⟨World.ownsRow_nil _ _ _ _, none, 0, rfl⟩
theorem MRow.below {w w' : World} {B : Nat} {v : Value} {cs : List CmtD} (h : MRow w B v cs) (hb : Below w.heap.size w w') : MRow w' B v cs := ⟨own_below' h.1 hb, h.2⟩
theorem MRow.base {w : World} {B B' : Nat} {v : Value} {cs : List CmtD} (h : MRow w B v cs) (hB : B' ≤ B) : MRow w B' v cs := ⟨own_base h.1 hB, h.2⟩
theorem MRow.only {w w' : World} {B b f : Nat} {v : Value} {cs : List CmtD} {x : LxS} (h : MRow w B v cs) (ht : LxAt w b f x) (hb : Only b w w') : MRow w' B v cs :=
  ⟨h.1.kept (row := some b) ⟨hb.os, hb.tape, hb.output, hb.size, fun k hk hne => hb.block k hk (fun e => hne (by rw [e]))⟩ (Or.inr (own_tag_ne h.1 ht (by decide))), h.2⟩
/-- Behind the append of a comment. -/
theorem m_push {w1 : World} {B g cap : Nat} {cs : List CmtD} {c : CmtD} {n : Nat} {xs : List Value} (hn : n = cs.length + 1) (hx : xs = cs.flatMap cmtCells ++ cmtCells c)
    (h : w1.ownsRow B 68 4 (.slice (some ⟨g, 0, none⟩) n cap) n xs) : MRow w1 B (.slice (some ⟨g, 0, none⟩) n cap) (cs ++ [c]) := by
  subst hn; subst hx
  refine ⟨?_, some ⟨g, 0, none⟩, cap, by simp⟩
  simpa [List.length_append, List.flatMap_append] using h
theorem grown_lx {w w1 : World} {o : Obj} {b f : Nat} {x : LxS} {row : Option Nat} (ht : LxAt w b f x) (hg : ((w.alloc o).drew).grownBy w1 row) (hne : row ≠ some b) : LxAt w1 b f x := by
  refine ht.kept ?_
  rw [hg.block b (by have := ht.lt; simp; omega) (fun h => hne h.symm)]
  exact Below.heap_alloc w o b ht.lt

/-- The lexer behind a token. -/
def nextLx (s : ByteArray) (x : LxS) (g : List CmtD × Nat × Nat) (r : TokR) (v : Value) : LxS := ⟨r.kind, v, s.extract g.2.1 g.2.2, s.extract g.2.2 r.stop, r.text.getD ⟨#[]⟩, r.base.getD 0, (g.2.2 : Nat), (r.stop : Nat), (r.stop : Nat), x.kind, !x.dot && isDot r.kind && dottedB x.kind⟩
/-- What the next token leaves. -/
def NextPost (s : ByteArray) (b f B i : Nat) (x : LxS) (w : World) (e : Ending) (w' : World) : Prop :=
  match gapFrom s (s.size + 1) i [] with
  | none => Thrown B w e w'
  | some g =>
    match tokOf s g.2.2 x.dot (dottedB x.kind) with
    | none => Thrown B w e w'
    | some r => e = .returned (.tuple #[]) ∧ Only b w w' ∧ ∃ v, LxAt w' b f (nextLx s x g r v) ∧ MRow w' w.heap.size v g.1
theorem NextPost.gap {s : ByteArray} {b f B i : Nat} {x : LxS} {w : World} {e : Ending} {w' : World} (h : gapFrom s (s.size + 1) i [] = none) (k : Thrown B w e w') : NextPost s b f B i x w e w' := by
  unfold NextPost
  rw [h]
  exact k
theorem NextPost.tok {s : ByteArray} {b f B i : Nat} {x : LxS} {w : World} {e : Ending} {w' : World} {g : List CmtD × Nat × Nat} (h : gapFrom s (s.size + 1) i [] = some g) (ht : tokOf s g.2.2 x.dot (dottedB x.kind) = none) (k : Thrown B w e w') : NextPost s b f B i x w e w' := by
  unfold NextPost
  rw [h]
  simp only []
  rw [ht]
  exact k
theorem NextPost.good {s : ByteArray} {b f B i : Nat} {x : LxS} {w : World} {w' : World} {g : List CmtD × Nat × Nat} {r : TokR} {v : Value} (h : gapFrom s (s.size + 1) i [] = some g) (ht : tokOf s g.2.2 x.dot (dottedB x.kind) = some r) (hO : Only b w w') (hl : LxAt w' b f (nextLx s x g r v)) (hr : MRow w' w.heap.size v g.1) : NextPost s b f B i x w (.returned (.tuple #[])) w' := by
  unfold NextPost
  rw [h]
  simp only []
  rw [ht]
  exact ⟨trivial, hO, v, hl, hr⟩
/-- No comment begins where one is skipped to its own begin. -/
theorem cmt_here {s : ByteArray} {k : Nat} (hk : k < s.size) (h : commentEnd s k = some k) : bt s k ≠ 35 := by
  intro e
  unfold commentEnd at h
  rw [if_pos (Or.inl (by rw [starts_one s k 35 hk]; exact decide_eq_true e))] at h
  have := lineEnd_ge s k
  have h2 : min (lineEnd s k + 1) s.size = k := Option.some.inj h
  omega
theorem blanks_here (s : ByteArray) (i : Nat) : blanksEnd s i < s.size → blankB (bt s (blanksEnd s i)) = false := by
  fun_induction blanksEnd s i with
  | case1 i hlt ih => exact ih
  | case2 i hn =>
    intro h
    cases hb : blankB (bt s i) with
    | true => exact absurd ⟨h, hb⟩ hn
    | false => rfl
/-- A lexer without its token. -/
def bare (x : LxS) (p : Nat) (v : Value) : LxS := ⟨⟨#[]⟩, v, ⟨#[]⟩, ⟨#[]⟩, ⟨#[]⟩, 0, 0, 0, (p : Nat), x.kind, x.dot⟩
theorem bare_at {w : World} {b f i : Nat} {x : LxS} (h : LxAt w b f x) (hp : x.pos = i) : LxAt (((((((((w.setCell ⟨b, 10, none⟩ (.string x.kind)).setCell ⟨b, 1, none⟩ (.string ⟨#[]⟩)).setCell ⟨b, 2, none⟩ (.slice none 0 0)).setCell ⟨b, 3, none⟩ (.string ⟨#[]⟩)).setCell ⟨b, 4, none⟩ (.string ⟨#[]⟩)).setCell ⟨b, 5, none⟩ (.string ⟨#[]⟩)).setCell ⟨b, 6, none⟩ (.int .i64 0)).setCell ⟨b, 7, none⟩ (.int .i64 0)).setCell ⟨b, 8, none⟩ (.int .i64 0)) b f (bare x i (.slice none 0 0)) := by
  have h0 : (w.setCell ⟨b, 10, none⟩ (.string x.kind)).heap[b]? = some (.cells #[.pointer (some ⟨f, 0, none⟩), .string x.kind, x.cm, .string x.space, .string x.raw, .string x.text, .int .i64 x.base, .int .i64 x.tpos, .int .i64 x.tend, .int .i64 x.pos, .string x.kind, .bool x.dot] 47 (0, 0)) := setCell_block h
  have h1 : ((w.setCell ⟨b, 10, none⟩ (.string x.kind)).setCell ⟨b, 1, none⟩ (.string ⟨#[]⟩)).heap[b]? = some (.cells #[.pointer (some ⟨f, 0, none⟩), .string ⟨#[]⟩, x.cm, .string x.space, .string x.raw, .string x.text, .int .i64 x.base, .int .i64 x.tpos, .int .i64 x.tend, .int .i64 x.pos, .string x.kind, .bool x.dot] 47 (0, 0)) := setCell_block h0
  have h2 : (((w.setCell ⟨b, 10, none⟩ (.string x.kind)).setCell ⟨b, 1, none⟩ (.string ⟨#[]⟩)).setCell ⟨b, 2, none⟩ (.slice none 0 0)).heap[b]? = some (.cells #[.pointer (some ⟨f, 0, none⟩), .string ⟨#[]⟩, .slice none 0 0, .string x.space, .string x.raw, .string x.text, .int .i64 x.base, .int .i64 x.tpos, .int .i64 x.tend, .int .i64 x.pos, .string x.kind, .bool x.dot] 47 (0, 0)) := setCell_block h1
  have h3 : ((((w.setCell ⟨b, 10, none⟩ (.string x.kind)).setCell ⟨b, 1, none⟩ (.string ⟨#[]⟩)).setCell ⟨b, 2, none⟩ (.slice none 0 0)).setCell ⟨b, 3, none⟩ (.string ⟨#[]⟩)).heap[b]? = some (.cells #[.pointer (some ⟨f, 0, none⟩), .string ⟨#[]⟩, .slice none 0 0, .string ⟨#[]⟩, .string x.raw, .string x.text, .int .i64 x.base, .int .i64 x.tpos, .int .i64 x.tend, .int .i64 x.pos, .string x.kind, .bool x.dot] 47 (0, 0)) := setCell_block h2
  have h4 : (((((w.setCell ⟨b, 10, none⟩ (.string x.kind)).setCell ⟨b, 1, none⟩ (.string ⟨#[]⟩)).setCell ⟨b, 2, none⟩ (.slice none 0 0)).setCell ⟨b, 3, none⟩ (.string ⟨#[]⟩)).setCell ⟨b, 4, none⟩ (.string ⟨#[]⟩)).heap[b]? = some (.cells #[.pointer (some ⟨f, 0, none⟩), .string ⟨#[]⟩, .slice none 0 0, .string ⟨#[]⟩, .string ⟨#[]⟩, .string x.text, .int .i64 x.base, .int .i64 x.tpos, .int .i64 x.tend, .int .i64 x.pos, .string x.kind, .bool x.dot] 47 (0, 0)) := setCell_block h3
  have h5 : ((((((w.setCell ⟨b, 10, none⟩ (.string x.kind)).setCell ⟨b, 1, none⟩ (.string ⟨#[]⟩)).setCell ⟨b, 2, none⟩ (.slice none 0 0)).setCell ⟨b, 3, none⟩ (.string ⟨#[]⟩)).setCell ⟨b, 4, none⟩ (.string ⟨#[]⟩)).setCell ⟨b, 5, none⟩ (.string ⟨#[]⟩)).heap[b]? = some (.cells #[.pointer (some ⟨f, 0, none⟩), .string ⟨#[]⟩, .slice none 0 0, .string ⟨#[]⟩, .string ⟨#[]⟩, .string ⟨#[]⟩, .int .i64 x.base, .int .i64 x.tpos, .int .i64 x.tend, .int .i64 x.pos, .string x.kind, .bool x.dot] 47 (0, 0)) := setCell_block h4
  have h6 : (((((((w.setCell ⟨b, 10, none⟩ (.string x.kind)).setCell ⟨b, 1, none⟩ (.string ⟨#[]⟩)).setCell ⟨b, 2, none⟩ (.slice none 0 0)).setCell ⟨b, 3, none⟩ (.string ⟨#[]⟩)).setCell ⟨b, 4, none⟩ (.string ⟨#[]⟩)).setCell ⟨b, 5, none⟩ (.string ⟨#[]⟩)).setCell ⟨b, 6, none⟩ (.int .i64 0)).heap[b]? = some (.cells #[.pointer (some ⟨f, 0, none⟩), .string ⟨#[]⟩, .slice none 0 0, .string ⟨#[]⟩, .string ⟨#[]⟩, .string ⟨#[]⟩, .int .i64 0, .int .i64 x.tpos, .int .i64 x.tend, .int .i64 x.pos, .string x.kind, .bool x.dot] 47 (0, 0)) := setCell_block h5
  have h7 : ((((((((w.setCell ⟨b, 10, none⟩ (.string x.kind)).setCell ⟨b, 1, none⟩ (.string ⟨#[]⟩)).setCell ⟨b, 2, none⟩ (.slice none 0 0)).setCell ⟨b, 3, none⟩ (.string ⟨#[]⟩)).setCell ⟨b, 4, none⟩ (.string ⟨#[]⟩)).setCell ⟨b, 5, none⟩ (.string ⟨#[]⟩)).setCell ⟨b, 6, none⟩ (.int .i64 0)).setCell ⟨b, 7, none⟩ (.int .i64 0)).heap[b]? = some (.cells #[.pointer (some ⟨f, 0, none⟩), .string ⟨#[]⟩, .slice none 0 0, .string ⟨#[]⟩, .string ⟨#[]⟩, .string ⟨#[]⟩, .int .i64 0, .int .i64 0, .int .i64 x.tend, .int .i64 x.pos, .string x.kind, .bool x.dot] 47 (0, 0)) := setCell_block h6
  have h8 : (((((((((w.setCell ⟨b, 10, none⟩ (.string x.kind)).setCell ⟨b, 1, none⟩ (.string ⟨#[]⟩)).setCell ⟨b, 2, none⟩ (.slice none 0 0)).setCell ⟨b, 3, none⟩ (.string ⟨#[]⟩)).setCell ⟨b, 4, none⟩ (.string ⟨#[]⟩)).setCell ⟨b, 5, none⟩ (.string ⟨#[]⟩)).setCell ⟨b, 6, none⟩ (.int .i64 0)).setCell ⟨b, 7, none⟩ (.int .i64 0)).setCell ⟨b, 8, none⟩ (.int .i64 0)).heap[b]? = some (.cells #[.pointer (some ⟨f, 0, none⟩), .string ⟨#[]⟩, .slice none 0 0, .string ⟨#[]⟩, .string ⟨#[]⟩, .string ⟨#[]⟩, .int .i64 0, .int .i64 0, .int .i64 0, .int .i64 x.pos, .string x.kind, .bool x.dot] 47 (0, 0)) := setCell_block h7
  unfold LxAt bare
  rw [← hp]
  exact h8
theorem grown_file {w w1 : World} {o : Obj} {f : Nat} {s : ByteArray} {ln : Value} {row : Option Nat} (ht : FileAt w f s ln) (hg : ((w.alloc o).drew).grownBy w1 row) (hne : row ≠ some f) : FileAt w1 f s ln := by
  refine ht.kept ?_
  rw [hg.block f (by have := ht.lt; simp; omega) (fun h => hne h.symm)]
  exact Below.heap_alloc w o f ht.lt
theorem only_grown {w W w1 : World} {o : Obj} {b e z n : Nat} {v : Value} {xs : List Value} (hO : Only b w W) (hown : W.ownsRow w.heap.size e z v n xs) (hg : ((W.alloc o).drew).grownBy w1 v.ownBlock) : Only b w w1 := by
  have hz := hO.size
  have hs := hg.size
  refine ⟨hg.os.trans hO.os, hg.tape.trans hO.tape, hg.output.trans hO.output, ?_, fun k hk hne => ?_⟩
  · simp at hs
    omega
  · rw [hg.block k (by simp; omega) (fun h => by have := (hown.lt k h.symm).1; omega)]
    exact (Below.heap_alloc W o k (by omega)).trans (hO.block k hk hne)
end Go.Proofs.YtmkkeacbabmaeaaGreatDoor
