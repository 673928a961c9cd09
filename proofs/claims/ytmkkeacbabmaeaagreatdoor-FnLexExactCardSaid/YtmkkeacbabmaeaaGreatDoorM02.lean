/- A place of a file, with its lines written out: it is made, and names its place. Condition: the places are in the text, or its end; the text is at most 4096 bytes long; the table of powers holds what it was laid with. · A fault of the lexer: it is thrown as an error that names its place. Condition: the places are in the text, or its end; the text is at most 4096 bytes long; the table of powers holds what it was laid with. · The reserved words as the reference's text bears them, and as a list: a word without blanks stands between two blanks of the text exactly if it is on the list. No condition. · Capitals of a text, plain. No condition. · Signs, plain. No condition. · One token at a place, plain. No condition. · What the parser skips ahead of a token: blanks, comments; and the test of a path's dot. Condition: the text is at most 4096 bytes long and is of the bytes that the reference speaks of. · The tests of one byte of package char. No condition. · A number as the parser reads it, plain: one loop over its bytes; it is the reference's. No condition. · A part of one or two bytes at a place, by its bytes. No condition. -/
import Derived.Test.YtmkkeacbabmaeaaGreatDoorM01
import Derived.Test.YtmkkeacbabmaeaaGreatDoorSh
import Derived.Lib.AppendIntMem
import Derived.Lib.ItoaLen
import Derived.Lib.BufferOld
import Derived.Deep.RegionWith
import Derived.Deep.CutBlock
namespace Go.Proofs.YtmkkeacbabmaeaaGreatDoor
open Go.RowKit Go.PlainAid Go.Sort

theorem sizeL' (s : ByteArray) : s.size = s.data.toList.length := (Array.length_toList).symm
set_option maxHeartbeats 2000000 in
theorem zzPad_c (n : Nat) (w : World) (hn : n ≤ 1000000) (htab : Lib.TabIs Tryz.prog w "internal/strconv.uint64pow10" .u64 Lib.pow10Tab) :
    Calls Tryz.prog 91 #[.int .i64 n] w fun e w' => ∃ t : ByteArray, t.size ≤ 30 ∧ e = .returned (.string t) ∧ Below w.heap.size w w' := by
  have h1 := Lib.hid (Tryz.strconv_Itoa n (by omega) (by omega) w htab)
  have hl := Lib.itoa_length_le n (by omega) (by omega)
  clear htab
  go_enter Tryz.func91, Tryz.ntmps91
  go_wp2_with fail
  refine h1.out.mono ?_
  rintro e w1 ⟨rfl, k, os, rfl⟩
  clear h1
  have hb : Below w.heap.size w (grow (w.drewN k) os) := Lib.below_grow _ w (Nat.le_refl _) k os
  obtain ⟨w1, hw1⟩ : ∃ w1, grow (w.drewN k) os = w1 := ⟨_, rfl⟩
  rw [hw1] at hb ⊢
  have hz : (ByteArray.mk (Lib.itoa (n : Int)).toArray).size ≤ 21 := by rw [sizeL']; simpa using hl
  obtain ⟨T, hT⟩ : ∃ T, ByteArray.mk (Lib.itoa (n : Int)).toArray = T := ⟨_, rfl⟩
  rw [hT] at hz ⊢
  clear hw1 hT hl
  go_wp2_with fail
  go_loopw [3] (fun v3 wr => ∃ t : ByteArray, v3 = .string t ∧ t.size ≤ 30 ∧ Below w.heap.size w wr) (fun v3 _ => match v3 with | .string t => 3 - t.size | _ => 0)
  case atStart => exact ⟨T, rfl, by omega, hb⟩
  case round =>
    obtain ⟨t, rfl, ht, hbw⟩ := hrel
    by_cases h3 : t.size < 3
    · go_wp2_with fail
      have e1 : (ByteArray.mk #[32] ++ t).size = 1 + t.size := by rw [ByteArray.size_append]; rfl
      refine ⟨⟨_, rfl, by omega, hbw⟩, ?_⟩
      show 3 - (ByteArray.mk #[32] ++ t).size < 3 - t.size
      omega
    · go_wp2_with fail
      go_ret
      exact ⟨t, ht, rfl, hbw⟩

theorem own_low {w w' : World} {B n : Nat} {e : TypeId} {v : Value} {xs : List Value} (h : w.ownsRow B e 1 v n xs) (hb : RowKit.Below w.heap.size w w') : w'.ownsRow B e 1 v n xs :=
  h.kept (row := none) ⟨hb.os, hb.tape, hb.output, hb.size, fun k hk _ => hb.block k hk⟩ (by cases v.ownBlock <;> simp)
theorem Lines.low {w w' : World} {s : ByteArray} {f B : Nat} {l : List ByteArray} {ln : Value} (h : Lines w s f l B ln) (hb : RowKit.Below w.heap.size w w') : Lines w' s f l B ln :=
  ⟨h.file.below hb, h.sum, own_low h.row hb⟩

/-- A text is written into the buffer. -/
theorem buf_write {b : Nat} {bs : List UInt8} (t : ByteArray) {W : World} (hI : Lib.IsBuffer 155 5 b b (Lib.byteCells bs) W) (hb : b ≤ W.heap.size) (hl : bs.length + t.size ≤ 140737488355328) :
    Calls Tryz.prog 90 #[.pointer (some ⟨b, 0, none⟩), .string t] W fun e w' => e = .returned (.tuple #[.int .i64 t.size, .nilIface]) ∧ (∃ bs' : List UInt8, bs'.length = bs.length + t.size ∧ Lib.IsBuffer 155 5 b b (Lib.byteCells bs') w') ∧ RowKit.Below b W w' :=
  (Tryz.Buffer_WriteString_k b b _ t W hI hb (Lib.byteCells_one _) (by rw [Lib.byteCells_length]; exact hl)).mono fun _ _ ⟨h1, h2, h3, _⟩ => ⟨h1, ⟨bs ++ t.data.toList, by rw [List.length_append, sizeL'], by rw [Lib.byteCells_append]; exact h2⟩, h3⟩
/-- One sign, repeated. -/
theorem repeat_one (x : UInt8) (c : Nat) (hc : c ≤ 4096) (W : World) :
    Calls Tryz.prog 92 #[.string ⟨#[x]⟩, .int .i64 c] W fun e w' => ∃ t : ByteArray, t.size ≤ 4096 ∧ e = .returned (.string t) ∧ RowKit.Below W.heap.size W w' :=
  (Tryz.strings_Repeat ⟨#[x]⟩ c W (by omega) (by show 1 * c ≤ _; omega)).mono fun _ _ ⟨h1, h2⟩ => ⟨_, by rw [sizeL', List.toList_toArray, Lib.repeatL_length]; show c * 1 ≤ _; omega, h1, h2⟩

set_option maxHeartbeats 4000000 in
set_option maxRecDepth 100000 in
theorem Position_c (s : ByteArray) (f p q B : Nat) (w : World) (hs : s.size ≤ 4096) (hp : p ≤ s.size) (hq : q ≤ s.size) (hf : FileAt w f s (.slice none 0 0)) (hBf : B ≤ f) (hB : B ≤ w.heap.size)
    (htab : Lib.TabBelow Tryz.prog B w "internal/strconv.uint64pow10" .u64 Lib.pow10Tab) :
    Calls Tryz.prog 82 #[.pointer (some ⟨f, 0, none⟩), .int .i64 p, .int .i64 q] w fun e w' => ∃ g, e = .returned (.pointer (some ⟨g, 0, none⟩)) ∧ w'.cell? ⟨g, 1, none⟩ = some (.int .i64 p) ∧ RowKit.Below B w w' ∧ Only f w w' := by
  have hIp := Lib.hid (fun W => Invalid_c p W)
  have hIq := Lib.hid (fun W => Invalid_c q W)
  have h1 := Lib.hid (resolve_first s f p w (by omega) hp hf)
  have htab := Lib.hid htab
  have hflt := hf.lt
  clear hf
  go_enter Tryz.func82, Tryz.ntmps82
  go_wp2_with fail
  refine h1.out.mono ?_
  rintro e w1 ⟨l, B0, ln, k1, ⟨honly, hL⟩, hk1, hp1, rfl⟩
  clear h1
  have h2 := Lib.hid (resolve_again s f q w1 l B0 ln (by omega) hq hL)
  have hb1 : RowKit.Below B w w1 := honly.below hBf hB
  have HOn := Lib.hid honly
  clear honly
  go_wp2_with fail
  refine h2.out.mono ?_
  rintro e w2 ⟨k2, rfl, hk2, hq2, rfl⟩
  clear h2
  obtain ⟨c1, hc1⟩ : ∃ c1, p - lineAt l k1 = c1 := ⟨_, rfl⟩
  obtain ⟨c2, hc2⟩ : ∃ c2, q - lineAt l k2 = c2 := ⟨_, rfl⟩
  have hc1s : c1 ≤ 4096 := by omega
  have hc2s : c2 ≤ 4096 := by omega
  rw [hc1, hc2]
  go_upto_block 0 with fail
  obtain ⟨b, hbe⟩ : ∃ b, w2.heap.size = b := ⟨_, rfl⟩
  rw [hbe]
  go_cut [28] (fun _ wc => ∃ bs : List UInt8, Lib.IsBuffer 155 5 b b (Lib.byteCells bs) wc ∧ RowKit.Below b w2 wc)
  case first =>
    have hI0 : Lib.IsBuffer 155 5 w2.heap.size w2.heap.size (Lib.byteCells []) (w2.alloc (.cells #[.slice none 0 0, .int .i64 0, .int .i8 0] 155)) := Lib.fresh_isBuffer 155 5 w2
    have hb3 : RowKit.Below w2.heap.size w2 (w2.alloc (.cells #[.slice none 0 0, .int .i64 0, .int .i8 0] 155)) := (RowKit.Below.refl _ _).alloc (Nat.le_refl _) _
    obtain ⟨w3, hw3⟩ : ∃ w3, w2.alloc (.cells #[.slice none 0 0, .int .i64 0, .int .i8 0] 155) = w3 := ⟨_, rfl⟩
    rw [hw3] at hI0 hb3 ⊢
    have hL3 := hL.low hb3
    obtain ⟨g, cap, rfl, _, _, hc⟩ := own_open hL3.row (by omega)
    have f1 := hL3.file.cell1
    have f2 := hL3.file.cell2
    have hsum := hL3.sum
    have hbw3 : RowKit.Below B w w3 := hb1.trans (hb3.mono (Nat.le_trans hB hb1.size))
    have hB3 : w2.heap.size ≤ w3.heap.size := hb3.size
    rw [hbe] at hI0 hb3 hB3
    have hc := Lib.hid hc
    have hL3 := Lib.hid hL3
    have HL := Lib.hid hL
    clear hL hw3
    by_cases heq : k1 = k2
    · subst heq
      have hll := lineSum_len l
      have hn1 := lineAt_next l k1 hk1
      have hn2 := lineAt_le l _ (k1 + 1) rfl hk1
      have e1 := hc.out k1 _ (posCells_at l _ k1 (by omega))
      have e2 := hc.out (k1 + 1) _ (posCells_at l _ (k1 + 1) (by omega))
      obtain ⟨a1, ha1⟩ : ∃ a, lineAt l k1 = a := ⟨_, rfl⟩
      obtain ⟨a2, ha2⟩ : ∃ a, lineAt l (k1 + 1) = a := ⟨_, rfl⟩
      rw [ha1, ha2] at hn1
      rw [ha1] at e1
      rw [ha2] at e2 hn2
      rw [hsum] at hn2
      have hn3 : a1 + 1 ≤ a2 := by omega
      clear hn1 ha1 ha2
      obtain ⟨n, hn⟩ : ∃ n, l.length + 1 = n := ⟨_, rfl⟩
      rw [hn] at f2
      have b1 : (k1 : Int) < (n : Int) := by omega
      obtain ⟨m, hm⟩ : ∃ m, k1 + 1 = m := ⟨_, rfl⟩
      have hmI : (k1 : Int) + 1 = (m : Int) := by omega
      have hwm : IntKind.i64.wrap (m : Int) = (m : Int) := IntWalk.i64_in _ (by omega)
      rw [hm] at e2
      have b2 : (m : Int) < (n : Int) := by omega
      have b0 : k1 < n := by omega
      have b5 : m < n := by omega
      obtain ⟨a3, ha3⟩ : ∃ a3, a2 - 1 = a3 := ⟨_, rfl⟩
      have ha3I : (a2 : Int) - 1 = (a3 : Int) := by omega
      have hwa : IntKind.i64.wrap (a3 : Int) = (a3 : Int) := IntWalk.i64_in _ (by omega)
      have b3 : (a1 : Int) ≤ (a3 : Int) := by omega
      have b4 : (a3 : Int) ≤ (s.size : Int) := by omega
      have b6 : a1 ≤ a3 := by omega
      have b7 : a3 ≤ s.size := by omega
      go_wp2_with (first | (go_at_call 89; refine (hIp.out _).mono ?_; rintro e w' ⟨rfl, rfl⟩) | (go_at_call 89; refine (hIq.out _).mono ?_; rintro e w' ⟨rfl, rfl⟩))
      go_quiet (fail)
      have hI1 := hI0.drewN nq
      have hb4 : RowKit.Below b w2 (w3.drewN nq) := hb3.trans ⟨rfl, rfl, rfl, Nat.le_refl _, fun _ _ => rfl⟩
      have hbw4 : RowKit.Below B w (w3.drewN nq) := hbw3.trans ⟨rfl, rfl, rfl, Nat.le_refl _, fun _ _ => rfl⟩
      have hB4 : b ≤ (w3.drewN nq).heap.size := hB3
      obtain ⟨w4, hw4⟩ : ∃ w4, w3.drewN nq = w4 := ⟨_, rfl⟩
      rw [hw4] at hI1 hb4 hbw4 hB4 ⊢
      have hp8 := Lib.hid (zzPad_c m w4 (by omega) (htab.out w4 hbw4))
      have hlt : (s.extract a1 a3).size ≤ 4096 := by rw [ByteArray.size_extract]; omega
      clear e1 e2 f1 f2 hw4 hI0
      obtain ⟨P, hP⟩ : ∃ P, s.extract a1 a3 = P := ⟨_, rfl⟩
      rw [hP] at hlt
      obtain ⟨mx, hmx⟩ : ∃ mx : Nat, max ((c2 : Int) - (c1 : Int) - 1) 0 = (mx : Int) := ⟨(max ((c2 : Int) - (c1 : Int) - 1) 0).toNat, by omega⟩
      have hmxs : mx ≤ 4096 := by omega
      go_wp2_with fail
      refine hp8.out.mono ?_
      rintro e w5 ⟨t, ht, rfl, hb5⟩
      clear hp8
      have hI5 := hI1.old hb5
      have hB5 : b ≤ w5.heap.size := Nat.le_trans hB4 hb5.size
      have hb45 := hb4.trans (hb5.mono hB4)
      go_wp2_with fail
      have hz5 : (t ++ ⟨#[124, 32, 32]⟩ ++ P ++ ⟨#[10]⟩ : ByteArray).size ≤ 5000 := by
        rw [ByteArray.size_append, ByteArray.size_append, ByteArray.size_append]
        show t.size + 3 + P.size + 1 ≤ _
        omega
      refine (buf_write _ hI5 hB5 (by simp only [List.length_nil]; omega)).mono ?_
      rintro e w6 ⟨rfl, ⟨bs6, hl6, hI6⟩, hb6⟩
      have hl6 : bs6.length ≤ 5000 := by rw [hl6]; simp only [List.length_nil]; omega
      have hB6 : b ≤ w6.heap.size := Nat.le_trans hB5 hb6.size
      have hb46 := hb45.trans hb6
      clear hz5 hI5 hb6 hb5 hI1
      go_wp2_with fail
      refine (repeat_one 32 c1 hc1s w6).mono ?_
      rintro e w7 ⟨t7, hz7, rfl, hb7⟩
      have hI7 := hI6.old hb7
      have hB7 : b ≤ w7.heap.size := Nat.le_trans hB6 hb7.size
      have hb47 := hb46.trans (hb7.mono hB6)
      clear hI6 hb7
      go_wp2_with fail
      refine (repeat_one 126 mx hmxs w7).mono ?_
      rintro e w8 ⟨t8, hz8, rfl, hb8⟩
      have hI8 := hI7.old hb8
      have hB8 : b ≤ w8.heap.size := Nat.le_trans hB7 hb8.size
      have hb48 := hb47.trans (hb8.mono hB7)
      clear hI7 hb8
      go_wp2_with fail
      have hz9 : (⟨#[32, 32, 32, 124, 32, 32]⟩ ++ t7 ++ ⟨#[94]⟩ ++ t8 : ByteArray).size ≤ 10000 := by
        rw [ByteArray.size_append, ByteArray.size_append, ByteArray.size_append]
        show 6 + t7.size + 1 + t8.size ≤ _
        omega
      refine (buf_write _ hI8 hB8 (by omega)).mono ?_
      rintro e w9 ⟨rfl, ⟨bs9, hl9, hI9⟩, hb9⟩
      clear hz9 hI8
      go_wp2_with fail
      go_meet
      case rel => exact ⟨bs9, hI9, hb48.trans hb9⟩
    · have hne : ((k1 : Int) == (k2 : Int)) = false := by simp; omega
      by_cases hlk : k1 < k2
      · have hll := lineSum_len l
        go_wp2_with (first | (go_at_call 89; refine (hIp.out _).mono ?_; rintro e w' ⟨rfl, rfl⟩) | (go_at_call 89; refine (hIq.out _).mono ?_; rintro e w' ⟨rfl, rfl⟩))
        go_loopw [14] (fun v14 wr => ∃ (j : Nat) (bs : List UInt8), v14 = .int .i64 j ∧ k1 ≤ j ∧ j ≤ k2 + 1 ∧ bs.length ≤ 5000 * j ∧ Lib.IsBuffer 155 5 b b (Lib.byteCells bs) wr ∧ RowKit.Below b w2 wr) (fun v14 _ => k2 + 1 - (intOf v14).toNat)
        case atStart => exact ⟨k1, [], rfl, Nat.le_refl _, by omega, by simp, hI0, hb3⟩
        case round =>
          obtain ⟨j, bs, rfl, hj1, hj2, hbl, hIr, hbr⟩ := hrel
          have hBr : b ≤ wr.heap.size := by have := hbr.size; omega
          by_cases hjk : j ≤ k2
          · go_upto_if 92 with fail
            go_cut [93] (fun _ wc2 => ∃ bs' : List UInt8, bs'.length ≤ 5000 * j + 1 ∧ Lib.IsBuffer 155 5 b b (Lib.byteCells bs') wc2 ∧ RowKit.Below b w2 wc2)
            case first =>
              by_cases hj0 : j = 0
              · have hjd : decide ((j : Int) > 0) = false := decide_eq_false (by omega)
                go_wp2_with fail
                go_meet
                case rel => exact ⟨bs, by omega, hIr, hbr⟩
              · have hjd : (0 : Int) < (j : Int) := by omega
                go_wp2_with fail
                refine (buf_write ⟨#[10]⟩ hIr hBr (by show bs.length + 1 ≤ _; omega)).mono ?_
                rintro e w6 ⟨rfl, ⟨bs6, hl6, hI6⟩, hb6⟩
                have hl6 : bs6.length = bs.length + 1 := hl6
                go_wp2_with fail
                go_meet
                case rel => exact ⟨bs6, by omega, hI6, hbr.trans hb6⟩
            case rest =>
              obtain ⟨bs', hbl', hI', hb'⟩ := hcut
              clear hIr hbr hBr hbl
              have hBc : b ≤ wc.heap.size := by have := hb'.size; omega
              have hLc := HL.out.low (show RowKit.Below w2.heap.size w2 wc by rw [hbe]; exact hb')
              have hbwc : RowKit.Below B w wc := hb1.trans (hb'.mono (by rw [← hbe]; exact Nat.le_trans hB hb1.size))
              obtain ⟨_, _, e0, _, _, hcc⟩ := own_open hLc.row (by omega)
              cases e0
              have fc1 := hLc.file.cell1
              have fc2 := hLc.file.cell2
              have hn1 := lineAt_next l j (by omega)
              have hn2 := lineAt_le l _ (j + 1) rfl (by omega)
              have e1 := hcc j _ (posCells_at l _ j (by omega))
              have e2 := hcc (j + 1) _ (posCells_at l _ (j + 1) (by omega))
              obtain ⟨a1, ha1⟩ : ∃ a, lineAt l j = a := ⟨_, rfl⟩
              obtain ⟨a2, ha2⟩ : ∃ a, lineAt l (j + 1) = a := ⟨_, rfl⟩
              rw [ha1, ha2] at hn1
              rw [ha1] at e1
              rw [ha2] at e2 hn2
              rw [hsum] at hn2
              have hn3 : a1 + 1 ≤ a2 := by omega
              clear hn1 ha1 ha2 hcc hLc f1 f2
              obtain ⟨n, hn⟩ : ∃ n, l.length + 1 = n := ⟨_, rfl⟩
              rw [hn] at fc2
              have b1 : (j : Int) < (n : Int) := by omega
              obtain ⟨m, hm⟩ : ∃ m, j + 1 = m := ⟨_, rfl⟩
              have hmI : (j : Int) + 1 = (m : Int) := by omega
              have hwm : IntKind.i64.wrap (m : Int) = (m : Int) := IntWalk.i64_in _ (by omega)
              rw [hm] at e2
              have b2 : (m : Int) < (n : Int) := by omega
              have b0 : j < n := by omega
              have b5 : m < n := by omega
              obtain ⟨a3, ha3⟩ : ∃ a3, a2 - 1 = a3 := ⟨_, rfl⟩
              have ha3I : (a2 : Int) - 1 = (a3 : Int) := by omega
              have hwa : IntKind.i64.wrap (a3 : Int) = (a3 : Int) := IntWalk.i64_in _ (by omega)
              have b3 : (a1 : Int) ≤ (a3 : Int) := by omega
              have b4 : (a3 : Int) ≤ (s.size : Int) := by omega
              have b6 : a1 ≤ a3 := by omega
              have b7 : a3 ≤ s.size := by omega
              go_wp2_with fail
              go_quiet (fail)
              have hI1 := hI'.drewN nq
              have hb4 : RowKit.Below b w2 (wc.drewN nq) := hb'.trans ⟨rfl, rfl, rfl, Nat.le_refl _, fun _ _ => rfl⟩
              have hbw4 : RowKit.Below B w (wc.drewN nq) := hbwc.trans ⟨rfl, rfl, rfl, Nat.le_refl _, fun _ _ => rfl⟩
              have hB4 : b ≤ (wc.drewN nq).heap.size := hBc
              obtain ⟨w4, hw4⟩ : ∃ w4, wc.drewN nq = w4 := ⟨_, rfl⟩
              rw [hw4] at hI1 hb4 hbw4 hB4 ⊢
              have hp8 := Lib.hid (zzPad_c m w4 (by omega) (htab.out w4 hbw4))
              have hlt : (s.extract a1 a3).size ≤ 4096 := by rw [ByteArray.size_extract]; omega
              obtain ⟨P, hP⟩ : ∃ P, s.extract a1 a3 = P := ⟨_, rfl⟩
              rw [hP] at hlt
              clear e1 e2 fc1 fc2 hw4 hI'
              go_wp2_with fail
              refine hp8.out.mono ?_
              rintro e w5 ⟨t, ht, rfl, hb5⟩
              clear hp8
              have hI5 := hI1.old hb5
              have hB5 : b ≤ w5.heap.size := Nat.le_trans hB4 hb5.size
              have hb45 := hb4.trans (hb5.mono hB4)
              go_wp2_with fail
              have hz5 : (t ++ ⟨#[124, 32, 32]⟩ ++ P : ByteArray).size ≤ 4900 := by
                rw [ByteArray.size_append, ByteArray.size_append]
                show t.size + 3 + P.size ≤ _
                omega
              refine (buf_write _ hI5 hB5 (by omega)).mono ?_
              rintro e w6 ⟨rfl, ⟨bs6, hl6, hI6⟩, hb6⟩
              go_wp2_with fail
              exact ⟨⟨m, bs6, rfl, by omega, by omega, by omega, hI6, hb45.trans hb6⟩, by simp [intOf]; omega⟩
          · go_wp2_with fail
            go_meet
            case rel => exact ⟨bs, hIr, hbr⟩
      · go_wp2_with (first | (go_at_call 89; refine (hIp.out _).mono ?_; rintro e w' ⟨rfl, rfl⟩) | (go_at_call 89; refine (hIq.out _).mono ?_; rintro e w' ⟨rfl, rfl⟩))
        go_meet
        case rel => exact ⟨[], hI0, hb3⟩
  case rest =>
    obtain ⟨bs, hIb, hbc⟩ := hcut
    have hLc := hL.low (show RowKit.Below w2.heap.size w2 wc by rw [hbe]; exact hbc)
    have hBc : B ≤ wc.heap.size := Nat.le_trans hB (Nat.le_trans hb1.size hbc.size)
    have hbwc : RowKit.Below B w wc := hb1.trans (hbc.mono (by rw [← hbe]; exact Nat.le_trans hB hb1.size))
    have f0 := hLc.file.cell0
    have hst := Lib.hid (fun k => Tryz.Buffer_String b b bs (wc.drewN k) (hIb.drewN k))
    clear hL hLc hIb
    go_wp2_with fail
    go_region_with (go_at_call 93; refine (hst.out _).mono ?_; rintro e w' ⟨rfl, k, rfl⟩)
    all_goals
      go_wp2_with fail
      go_ret
      refine ⟨wc.heap.size, rfl, ?_, ?_, ?_⟩
      · exact (World.cell?_alloc_mark (wc.drewN _) _ _ _ 1).trans rfl
      · refine RowKit.Below.alloc (w := wc.drewN _) ?_ hBc _
        exact hbwc.trans ⟨rfl, rfl, rfl, Nat.le_refl _, fun _ _ => rfl⟩
      · refine Only.alloc (w := wc.drewN _) ?_ _
        have hOw : Only f w wc := HOn.out.trans (Only.of_below (by rw [← hbe] at hbc; exact hbc))
        exact hOw.trans ⟨rfl, rfl, rfl, Nat.le_refl _, fun _ _ _ => rfl⟩
end Go.Proofs.YtmkkeacbabmaeaaGreatDoor
namespace Go.Proofs.YtmkkeacbabmaeaaGreatDoor
open Go.RowKit Go.PlainAid

/-- v is an error whose place is p. -/
def ErrAt (w : World) (v : Value) (p : Nat) : Prop :=
  ∃ e g, v = .pointer (some ⟨e, 0, none⟩) ∧ w.cell? ⟨e, 1, none⟩ = some (.pointer (some ⟨g, 0, none⟩)) ∧ w.cell? ⟨g, 1, none⟩ = some (.int .i64 p) ∧ e < w.heap.size ∧ g < w.heap.size
theorem cell_lt {w : World} {g j : Nat} {v : Value} (h : w.cell? ⟨g, j, none⟩ = some v) : g < w.heap.size := by
  rcases Nat.lt_or_ge g w.heap.size with h2 | h2
  · exact h2
  · simp [World.cell?, Array.getElem?_eq_none h2] at h
theorem ErrAt.below {w w' : World} {v : Value} {p : Nat} (h : ErrAt w v p) (hb : RowKit.Below w.heap.size w w') : ErrAt w' v p := by
  obtain ⟨e, g, h1, h2, h3, h4, h5⟩ := h
  exact ⟨e, g, h1, (hb.cell (p := ⟨e, 1, none⟩) h4).trans h2, (hb.cell (p := ⟨g, 1, none⟩) h5).trans h3, Nat.lt_of_lt_of_le h4 hb.size, Nat.lt_of_lt_of_le h5 hb.size⟩

/-- But for lexers and files (and what is new), every block is as it was. -/
structure Kp (w w' : World) : Prop where
  size : w.heap.size ≤ w'.heap.size
  block : ∀ k, k < w.heap.size → (∀ C fr, w.heap[k]? ≠ some (.cells C 47 fr)) → (∀ C fr, w.heap[k]? ≠ some (.cells C 56 fr)) → w'.heap[k]? = w.heap[k]?
theorem Kp.trans {u v w : World} (h : Kp u v) (k : Kp v w) : Kp u w :=
  ⟨Nat.le_trans h.size k.size, fun i hi h1 h2 => by
    have e := h.block i hi h1 h2
    exact (k.block i (Nat.lt_of_lt_of_le hi h.size) (by rw [e]; exact h1) (by rw [e]; exact h2)).trans e⟩
theorem Kp.of_below {w w' : World} (h : RowKit.Below w.heap.size w w') : Kp w w' := ⟨h.size, fun k hk _ _ => h.block k hk⟩
theorem Only.kpL {w w' : World} {b f : Nat} {x : LxS} (h : Only b w w') (hl : LxAt w b f x) : Kp w w' := ⟨h.size, fun k hk h1 _ => h.block k hk (fun e => by subst e; exact h1 _ _ hl)⟩
theorem Only.kpF {w w' : World} {f : Nat} {s : ByteArray} {ln : Value} (h : Only f w w') (hl : FileAt w f s ln) : Kp w w' := ⟨h.size, fun k hk _ h2 => h.block k hk (fun e => by subst e; exact h2 _ _ hl)⟩
structure Low (B : Nat) (w w' : World) : Prop where
  below : RowKit.Below B w w'
  kp : Kp w w'

set_option maxHeartbeats 1000000 in
set_option maxRecDepth 100000 in
theorem errorfAt_c (s m : ByteArray) (b f p q B : Nat) (x : LxS) (w : World) (hs : s.size ≤ 4096) (hp : p ≤ s.size) (hq : q ≤ s.size) (hx : LxAt w b f x) (hf : FileAt w f s (.slice none 0 0)) (hBf : B ≤ f) (hB : B ≤ w.heap.size)
    (htab : Lib.TabBelow Tryz.prog B w "internal/strconv.uint64pow10" .u64 Lib.pow10Tab) :
    Calls Tryz.prog 80 #[.pointer (some ⟨b, 0, none⟩), .int .i64 p, .int .i64 q, .string m] w fun e w' => ∃ v, e = .returned v ∧ ErrAt w' v p ∧ Low B w w' := by
  have hP := Lib.hid (Position_c s f p q B w hs hp hq hf hBf hB htab)
  have c0 := hx.cell0
  have Hf := Lib.hid hf
  clear hx hf htab
  go_enter Tryz.func80, Tryz.ntmps80
  go_wp2_with fail
  refine hP.out.mono ?_
  rintro e w1 ⟨g, rfl, hg, hb, ho⟩
  have Ho := Lib.hid ho
  clear ho
  go_wp2_with fail
  go_ret
  refine ⟨_, rfl, ⟨w1.heap.size, g, rfl, World.cell?_alloc_mark w1 _ _ _ 1, ?_, by simp, ?_⟩, ⟨hb.alloc (Nat.le_trans hB hb.size) _, (Ho.out.alloc _).kpF Hf.out⟩⟩
  · rw [World.cell?_alloc_lt _ _ ⟨g, 1, none⟩ (cell_lt hg)]; exact hg
  · have := cell_lt hg
    simp
    omega

/-- A fault was thrown. -/
def Thrown (B : Nat) (w : World) (e : Ending) (w' : World) : Prop :=
  ∃ v p, e = .panicked [{ v := .iface 57 v, recovered := false }] ∧ ErrAt w' v p ∧ Low B w w'

set_option maxHeartbeats 1000000 in
set_option maxRecDepth 100000 in
theorem errorf_c (s m : ByteArray) (b f i B : Nat) (x : LxS) (w : World) (hs : s.size ≤ 4096) (hi : i ≤ s.size) (hx : LxAt w b f x) (hp : x.pos = i) (hf : FileAt w f s (.slice none 0 0)) (hBf : B ≤ f) (hB : B ≤ w.heap.size)
    (htab : Lib.TabBelow Tryz.prog B w "internal/strconv.uint64pow10" .u64 Lib.pow10Tab) :
    Calls Tryz.prog 68 #[.pointer (some ⟨b, 0, none⟩), .string m] w fun e w' => ∃ v p, e = .returned v ∧ ErrAt w' v p ∧ Low B w w' := by
  have hP := Lib.hid (fun n => Position_c s f i i B (w.drewN n) hs hi hi hf hBf hB (fun W hW => htab W (RowKit.Below.trans (show RowKit.Below B w (w.drewN n) from ⟨rfl, rfl, rfl, Nat.le_refl _, fun _ _ => rfl⟩) hW)))
  have c0 := hx.cell0
  have c9 := hx.cell9
  rw [hp] at c9
  have Hf := Lib.hid hf
  clear hx hf htab hp
  go_enter Tryz.func68, Tryz.ntmps68
  go_wp2_with fail
  go_region_with (go_at_call 82; refine (hP.out 1).mono ?_; rintro e w1 ⟨g, rfl, hg, hb, ho⟩)
  all_goals
    go_wp2_with fail
    go_ret
    refine ⟨_, i, rfl, ⟨w1.heap.size, g, rfl, World.cell?_alloc_mark w1 _ _ _ 1, ?_, by simp, ?_⟩, ?_⟩
    · rw [World.cell?_alloc_lt _ _ ⟨g, 1, none⟩ (cell_lt hg)]; exact hg
    · have := cell_lt hg
      simp
      omega
    · exact ⟨(RowKit.Below.trans (show RowKit.Below B w (w.drewN 1) from ⟨rfl, rfl, rfl, Nat.le_refl _, fun _ _ => rfl⟩) hb).alloc (Nat.le_trans hB hb.size) _, Only.kpF (f := f) (Only.alloc (Only.trans (show Only f w (w.drewN 1) from ⟨rfl, rfl, rfl, Nat.le_refl _, fun _ _ _ => rfl⟩) ho) _) Hf.out⟩

set_option maxHeartbeats 1000000 in
set_option maxRecDepth 100000 in
theorem panicfAt_c (s m : ByteArray) (b f p q B : Nat) (x : LxS) (w : World) (hs : s.size ≤ 4096) (hp : p ≤ s.size) (hq : q ≤ s.size) (hx : LxAt w b f x) (hf : FileAt w f s (.slice none 0 0)) (hBf : B ≤ f) (hB : B ≤ w.heap.size)
    (htab : Lib.TabBelow Tryz.prog B w "internal/strconv.uint64pow10" .u64 Lib.pow10Tab) :
    Calls Tryz.prog 74 #[.pointer (some ⟨b, 0, none⟩), .int .i64 p, .int .i64 q, .string m] w (Thrown B w) := by
  have hP := Lib.hid (errorfAt_c s m b f p q B x w hs hp hq hx hf hBf hB htab)
  clear hx hf htab
  go_enter Tryz.func74, Tryz.ntmps74
  go_wp2_with fail
  refine hP.out.mono ?_
  rintro e w1 ⟨v, rfl, hg, hb⟩
  obtain ⟨eb, g, rfl, h1, h2, h3, h4⟩ := hg
  go_wp2_with fail
  exact ⟨rfl, _, p, rfl, ⟨eb, g, rfl, h1, h2, h3, h4⟩, hb⟩

set_option maxHeartbeats 1000000 in
set_option maxRecDepth 100000 in
theorem panicf_c (s m : ByteArray) (b f i B : Nat) (x : LxS) (w : World) (hs : s.size ≤ 4096) (hi : i ≤ s.size) (hx : LxAt w b f x) (hp : x.pos = i) (hf : FileAt w f s (.slice none 0 0)) (hBf : B ≤ f) (hB : B ≤ w.heap.size)
    (htab : Lib.TabBelow Tryz.prog B w "internal/strconv.uint64pow10" .u64 Lib.pow10Tab) :
    Calls Tryz.prog 76 #[.pointer (some ⟨b, 0, none⟩), .string m] w (Thrown B w) := by
  have hP := Lib.hid (errorf_c s m b f i B x w hs hi hx hp hf hBf hB htab)
  clear hx hf htab hp
  go_enter Tryz.func76, Tryz.ntmps76
  go_wp2_with fail
  refine hP.out.mono ?_
  rintro e w1 ⟨v, p, rfl, hg, hb⟩
  obtain ⟨eb, g, rfl, h1, h2, h3, h4⟩ := hg
  go_wp2_with fail
  exact ⟨rfl, _, p, rfl, ⟨eb, g, rfl, h1, h2, h3, h4⟩, hb⟩
end Go.Proofs.YtmkkeacbabmaeaaGreatDoor
namespace Go.Proofs.YtmkkeacbabmaeaaGreatDoor
open Go.PlainAid

def kwTree : List UInt8 := (((([32, 65, 76, 76, 32, 65, 78, 68, 32, 65, 78, 89, 32, 65, 82, 82, 65, 89, 32, 65, 83, 32, 65, 83, 67, 32, 65, 83, 83, 69, 82, 84, 95, 82, 79, 87, 83].append [95, 77, 79, 68, 73, 70, 73, 69, 68, 32, 65, 84, 32, 66, 69, 84, 87, 69, 69, 78, 32, 66, 89, 32, 67, 65, 83, 69, 32, 67, 65, 83, 84, 32, 67, 79, 76, 76]).append ([65, 84, 69, 32, 67, 79, 78, 84, 65, 73, 78, 83, 32, 67, 82, 69, 65, 84, 69, 32, 67, 82, 79, 83, 83, 32, 67, 85, 66, 69, 32, 67, 85, 82, 82, 69, 78].append [84, 32, 68, 69, 70, 65, 85, 76, 84, 32, 68, 69, 70, 73, 78, 69, 32, 68, 69, 83, 67, 32, 68, 73, 83, 84, 73, 78, 67, 84, 32, 69, 76, 83, 69, 32, 69, 78])).append (([68, 32, 69, 78, 85, 77, 32, 69, 83, 67, 65, 80, 69, 32, 69, 88, 67, 69, 80, 84, 32, 69, 88, 67, 76, 85, 68, 69, 32, 69, 88, 73, 83, 84, 83, 32, 69].append [88, 84, 82, 65, 67, 84, 32, 70, 65, 76, 83, 69, 32, 70, 69, 84, 67, 72, 32, 70, 79, 76, 76, 79, 87, 73, 78, 71, 32, 70, 79, 82, 32, 70, 82, 79, 77, 32]).append ([70, 85, 76, 76, 32, 71, 82, 65, 80, 72, 95, 84, 65, 66, 76, 69, 32, 71, 82, 79, 85, 80, 32, 71, 82, 79, 85, 80, 73, 78, 71, 32, 71, 82, 79, 85, 80].append [83, 32, 72, 65, 83, 72, 32, 72, 65, 86, 73, 78, 71, 32, 73, 70, 32, 73, 71, 78, 79, 82, 69, 32, 73, 78, 32, 73, 78, 78, 69, 82, 32, 73, 78, 84, 69, 82]))).append ((([83, 69, 67, 84, 32, 73, 78, 84, 69, 82, 86, 65, 76, 32, 73, 78, 84, 79, 32, 73, 83, 32, 74, 79, 73, 78, 32, 76, 65, 84, 69, 82, 65, 76, 32, 76, 69].append [70, 84, 32, 76, 73, 75, 69, 32, 76, 73, 77, 73, 84, 32, 76, 79, 79, 75, 85, 80, 32, 77, 69, 82, 71, 69, 32, 78, 65, 84, 85, 82, 65, 76, 32, 78, 69, 87]).append ([32, 78, 79, 32, 78, 79, 84, 32, 78, 85, 76, 76, 32, 78, 85, 76, 76, 83, 32, 79, 70, 32, 79, 78, 32, 79, 82, 32, 79, 82, 68, 69, 82, 32, 79, 85, 84].append [69, 82, 32, 79, 86, 69, 82, 32, 80, 65, 82, 84, 73, 84, 73, 79, 78, 32, 80, 82, 69, 67, 69, 68, 73, 78, 71, 32, 80, 82, 79, 84, 79, 32, 82, 65, 78, 71])).append (([69, 32, 82, 69, 67, 85, 82, 83, 73, 86, 69, 32, 82, 69, 83, 80, 69, 67, 84, 32, 82, 73, 71, 72, 84, 32, 82, 79, 76, 76, 85, 80, 32, 82, 79, 87, 83].append [32, 83, 69, 76, 69, 67, 84, 32, 83, 69, 84, 32, 83, 79, 77, 69, 32, 83, 84, 82, 85, 67, 84, 32, 84, 65, 66, 76, 69, 83, 65, 77, 80, 76, 69, 32, 84, 72]).append ([69, 78, 32, 84, 79, 32, 84, 82, 69, 65, 84, 32, 84, 82, 85, 69, 32, 85, 78, 66, 79, 85, 78, 68, 69, 68, 32, 85, 78, 73, 79, 78, 32, 85, 78, 78, 69, 83].append [84, 32, 85, 83, 73, 78, 71, 32, 87, 72, 69, 78, 32, 87, 72, 69, 82, 69, 32, 87, 73, 78, 68, 79, 87, 32, 87, 73, 84, 72, 32, 87, 73, 84, 72, 73, 78, 32]))))
def kwText : ByteArray := ⟨kwTree.toArray⟩
/-- The reserved words. -/
def kwList : List (List UInt8) := [[65, 76, 76], [65, 78, 68], [65, 78, 89], [65, 82, 82, 65, 89], [65, 83], [65, 83, 67], [65, 83, 83, 69, 82, 84, 95, 82, 79, 87, 83, 95, 77, 79, 68, 73, 70, 73, 69, 68], [65, 84], [66, 69, 84, 87, 69, 69, 78], [66, 89], [67, 65, 83, 69], [67, 65, 83, 84], [67, 79, 76, 76, 65, 84, 69], [67, 79, 78, 84, 65, 73, 78, 83], [67, 82, 69, 65, 84, 69], [67, 82, 79, 83, 83], [67, 85, 66, 69], [67, 85, 82, 82, 69, 78, 84], [68, 69, 70, 65, 85, 76, 84], [68, 69, 70, 73, 78, 69], [68, 69, 83, 67], [68, 73, 83, 84, 73, 78, 67, 84], [69, 76, 83, 69], [69, 78, 68], [69, 78, 85, 77], [69, 83, 67, 65, 80, 69], [69, 88, 67, 69, 80, 84], [69, 88, 67, 76, 85, 68, 69], [69, 88, 73, 83, 84, 83], [69, 88, 84, 82, 65, 67, 84], [70, 65, 76, 83, 69], [70, 69, 84, 67, 72], [70, 79, 76, 76, 79, 87, 73, 78, 71], [70, 79, 82], [70, 82, 79, 77], [70, 85, 76, 76], [71, 82, 65, 80, 72, 95, 84, 65, 66, 76, 69], [71, 82, 79, 85, 80], [71, 82, 79, 85, 80, 73, 78, 71], [71, 82, 79, 85, 80, 83], [72, 65, 83, 72], [72, 65, 86, 73, 78, 71], [73, 70], [73, 71, 78, 79, 82, 69], [73, 78], [73, 78, 78, 69, 82], [73, 78, 84, 69, 82, 83, 69, 67, 84], [73, 78, 84, 69, 82, 86, 65, 76], [73, 78, 84, 79], [73, 83], [74, 79, 73, 78], [76, 65, 84, 69, 82, 65, 76], [76, 69, 70, 84], [76, 73, 75, 69], [76, 73, 77, 73, 84], [76, 79, 79, 75, 85, 80], [77, 69, 82, 71, 69], [78, 65, 84, 85, 82, 65, 76], [78, 69, 87], [78, 79], [78, 79, 84], [78, 85, 76, 76], [78, 85, 76, 76, 83], [79, 70], [79, 78], [79, 82], [79, 82, 68, 69, 82], [79, 85, 84, 69, 82], [79, 86, 69, 82], [80, 65, 82, 84, 73, 84, 73, 79, 78], [80, 82, 69, 67, 69, 68, 73, 78, 71], [80, 82, 79, 84, 79], [82, 65, 78, 71, 69], [82, 69, 67, 85, 82, 83, 73, 86, 69], [82, 69, 83, 80, 69, 67, 84], [82, 73, 71, 72, 84], [82, 79, 76, 76, 85, 80], [82, 79, 87, 83], [83, 69, 76, 69, 67, 84], [83, 69, 84], [83, 79, 77, 69], [83, 84, 82, 85, 67, 84], [84, 65, 66, 76, 69, 83, 65, 77, 80, 76, 69], [84, 72, 69, 78], [84, 79], [84, 82, 69, 65, 84], [84, 82, 85, 69], [85, 78, 66, 79, 85, 78, 68, 69, 68], [85, 78, 73, 79, 78], [85, 78, 78, 69, 83, 84], [85, 83, 73, 78, 71], [87, 72, 69, 78], [87, 72, 69, 82, 69], [87, 73, 78, 68, 79, 87], [87, 73, 84, 72], [87, 73, 84, 72, 73, 78]]

theorem kwText_size : kwText.size = 601 := by decide +kernel

/-- A text has a blank from a place on. -/
def spacedFrom (s : ByteArray) (i : Nat) : Bool := if i < s.size then (if bt s i = 32 then true else spacedFrom s (i + 1)) else false
termination_by s.size - i
decreasing_by omega
theorem spacedFrom_hit {s : ByteArray} {i : Nat} (h : i < s.size) (hb : bt s i = 32) : spacedFrom s i = true := by rw [spacedFrom, if_pos h, if_pos hb]
theorem spacedFrom_go {s : ByteArray} {i : Nat} (h : i < s.size) (hb : ¬ bt s i = 32) : spacedFrom s i = spacedFrom s (i + 1) := by rw [spacedFrom, if_pos h, if_neg hb]
theorem spacedFrom_end {s : ByteArray} {i : Nat} (h : ¬ i < s.size) : spacedFrom s i = false := by rw [spacedFrom, if_neg h]

/-- The word stands in the list's text behind place k. -/
def kwHit (K s : ByteArray) (k : Nat) : Bool := decide (bt K k = 32) && ((K.extract (k + 1) (k + 1 + s.size)).toList == s.toList) && decide (bt K (k + 1 + s.size) = 32)
def kwFind (K s : ByteArray) (k : Nat) : Bool := if k + s.size + 1 < 601 then (if kwHit K s k = true then decide (0 < s.size) else kwFind K s (k + 1)) else false
termination_by 601 - k
decreasing_by omega
theorem kwFind_hit {K s : ByteArray} {k : Nat} (h : k + s.size + 1 < 601) (hh : kwHit K s k = true) : kwFind K s k = decide (0 < s.size) := by rw [kwFind, if_pos h, if_pos hh]
theorem kwFind_go {K s : ByteArray} {k : Nat} (h : k + s.size + 1 < 601) (hh : kwHit K s k = false) : kwFind K s k = kwFind K s (k + 1) := by rw [kwFind, if_pos h, if_neg (by simp [hh])]
theorem kwFind_end {K s : ByteArray} {k : Nat} (h : ¬ k + s.size + 1 < 601) : kwFind K s k = false := by rw [kwFind, if_neg h]

/-- The reference's answer. -/
def kwB (s : ByteArray) : Bool := !spacedFrom s 0 && kwFind kwText s 0
end Go.Proofs.YtmkkeacbabmaeaaGreatDoor
namespace Go.Proofs.YtmkkeacbabmaeaaGreatDoor
open Go.PlainAid

def upB (c : UInt8) : UInt8 := if 97 ≤ c.toNat ∧ c.toNat ≤ 122 then c - 32 else c
def upperL (l : List UInt8) : List UInt8 := l.map upB
theorem upB_yes {c : UInt8} (h1 : 97 ≤ (c.toNat : Int)) (h2 : (c.toNat : Int) ≤ 122) : ((upB c).toNat : Int) = (c.toNat : Int) - 32 := by
  unfold upB
  rw [if_pos (by omega)]
  have : 32 ≤ c := by rw [UInt8.le_iff_toNat_le]; have : (32 : UInt8).toNat = 32 := rfl; omega
  rw [UInt8.toNat_sub_of_le _ _ this]
  have : (32 : UInt8).toNat = 32 := rfl
  omega
theorem upB_no {c : UInt8} (h : ¬ (97 ≤ (c.toNat : Int) ∧ (c.toNat : Int) ≤ 122)) : upB c = c := by
  unfold upB
  rw [if_neg (by omega)]

/-- The first k letters are capitals, the rest stands. -/
def upTo (l : List UInt8) (k : Nat) : List UInt8 := upperL (l.take k) ++ l.drop k
theorem upTo_zero (l : List UInt8) : upTo l 0 = l := by simp [upTo, upperL]
theorem upTo_all (l : List UInt8) (k : Nat) (h : l.length ≤ k) : upTo l k = upperL l := by simp [upTo, List.take_of_length_le h, List.drop_eq_nil_of_le h]
theorem upTo_length (l : List UInt8) (k : Nat) : (upTo l k).length = l.length := by simp [upTo, upperL]; omega
theorem upTo_get (l : List UInt8) (k : Nat) (h : k < l.length) : (upTo l k)[k]'(by rw [upTo_length]; exact h) = l[k] := by
  simp only [upTo, upperL]
  rw [List.getElem_append_right (by simp; omega)]
  simp [Nat.min_eq_left (Nat.le_of_lt h)]
theorem upTo_succ (l : List UInt8) (k : Nat) (h : k < l.length) : upTo l (k + 1) = (upTo l k).set k (upB l[k]) := by
  simp only [upTo, upperL]
  rw [List.take_succ_eq_append_getElem h, List.map_append, List.set_append, if_neg (by simp; omega)]
  have e : k - (List.map upB (l.take k)).length = 0 := by simp; omega
  rw [e]
  have e2 : l.drop k = l[k] :: l.drop (k + 1) := List.drop_eq_getElem_cons h
  rw [e2, List.set_cons_zero]
  simp
end Go.Proofs.YtmkkeacbabmaeaaGreatDoor
namespace Go.Proofs.YtmkkeacbabmaeaaGreatDoor
open Go.PlainAid

def symText : ByteArray := ⟨#[60, 60, 62, 62, 60, 61, 62, 61, 60, 62, 33, 61, 124, 124, 61, 62, 45, 62, 124, 62, 64, 64]⟩
def sigText : ByteArray := ⟨#[40, 41, 91, 93, 123, 125, 44, 59, 58, 46, 64, 61, 60, 62, 43, 45, 42, 47, 38, 94, 37, 124, 126, 36, 63, 92]⟩
theorem symText_size : symText.size = 22 := rfl
theorem sigText_size : sigText.size = 26 := rfl
def symFrom (K s : ByteArray) (i k : Nat) : Option (ByteArray × Nat) := if k < 22 then (if startsB s i (K.extract k (k + 2)) = true then some (K.extract k (k + 2), i + 2) else symFrom K s i (k + 2)) else none
termination_by 22 - k
decreasing_by omega
def sigFrom (K s : ByteArray) (i k : Nat) : Option (ByteArray × Nat) := if k < 26 then (if bt K k = bt s i then some (K.extract k (k + 1), i + 1) else sigFrom K s i (k + 1)) else none
termination_by 26 - k
decreasing_by omega
theorem symFrom_hit {K s : ByteArray} {i k : Nat} (h : k < 22) (hh : startsB s i (K.extract k (k + 2)) = true) : symFrom K s i k = some (K.extract k (k + 2), i + 2) := by rw [symFrom, if_pos h, if_pos hh]
theorem symFrom_go {K s : ByteArray} {i k : Nat} (h : k < 22) (hh : startsB s i (K.extract k (k + 2)) = false) : symFrom K s i k = symFrom K s i (k + 2) := by rw [symFrom, if_pos h, if_neg (by simp [hh])]
theorem symFrom_end {K s : ByteArray} {i k : Nat} (h : ¬ k < 22) : symFrom K s i k = none := by rw [symFrom, if_neg h]
theorem sigFrom_hit {K s : ByteArray} {i k : Nat} (h : k < 26) (hh : bt K k = bt s i) : sigFrom K s i k = some (K.extract k (k + 1), i + 1) := by rw [sigFrom, if_pos h, if_pos hh]
theorem sigFrom_go {K s : ByteArray} {i k : Nat} (h : k < 26) (hh : ¬ bt K k = bt s i) : sigFrom K s i k = sigFrom K s i (k + 1) := by rw [sigFrom, if_pos h, if_neg hh]
theorem sigFrom_end {K s : ByteArray} {i k : Nat} (h : ¬ k < 26) : sigFrom K s i k = none := by rw [sigFrom, if_neg h]
/-- A sign at a place, and where it ends. -/
def signOf (s : ByteArray) (i : Nat) : Option (ByteArray × Nat) :=
  match symFrom symText s i 0 with
  | some p => some p
  | none => sigFrom sigText s i 0
theorem signOf_sym {s : ByteArray} {i : Nat} {p : ByteArray × Nat} (h : symFrom symText s i 0 = some p) : signOf s i = some p := by rw [signOf, h]
theorem signOf_sig {s : ByteArray} {i : Nat} (h : symFrom symText s i 0 = none) : signOf s i = sigFrom sigText s i 0 := by rw [signOf, h]
end Go.Proofs.YtmkkeacbabmaeaaGreatDoor
namespace Go.Proofs.YtmkkeacbabmaeaaGreatDoor
open Go.PlainAid

def kEof : ByteArray := ⟨#[60, 101, 111, 102, 62]⟩
def kIdent : ByteArray := ⟨#[60, 105, 100, 101, 110, 116, 62]⟩
def kParam : ByteArray := ⟨#[60, 112, 97, 114, 97, 109, 62]⟩
def kString : ByteArray := ⟨#[60, 115, 116, 114, 105, 110, 103, 62]⟩
def kBytes : ByteArray := ⟨#[60, 98, 121, 116, 101, 115, 62]⟩
def dottedB (k : ByteArray) : Bool := (k.toList == [60, 105, 100, 101, 110, 116, 62]) || (k.toList == [60, 112, 97, 114, 97, 109, 62]) || (k.toList == [41]) || (k.toList == [93])

/-- A text's capitals. -/
def upperS (s : ByteArray) : ByteArray := ⟨(upperL s.data.toList).toArray⟩

/-- A token: its kind, its text and base (none: as they were), and where it ends. -/
structure TokR where
  kind : ByteArray
  text : Option ByteArray
  base : Option Int
  stop : Nat

def dotNum (s : ByteArray) (i : Nat) (after : Bool) : Prop := bt s i = 46 ∧ after = false ∧ i + 1 < s.size ∧ digitB (bt s (i + 1)) = true
instance (s : ByteArray) (i : Nat) (after : Bool) : Decidable (dotNum s i after) := by unfold dotNum; infer_instance
def atName (s : ByteArray) (i : Nat) : Prop := bt s i = 64 ∧ i + 1 < s.size ∧ letterB (bt s (i + 1)) = true
instance (s : ByteArray) (i : Nat) : Decidable (atName s i) := by unfold atName; infer_instance

def backTok (s : ByteArray) (i : Nat) : Option TokR :=
  match quotOf s i false false with
  | .good v n => if v = [] then none else some ⟨kIdent, some ⟨v.toArray⟩, none, n⟩
  | .bad _ => none
def numTok (s : ByteArray) (i : Nat) : Option TokR := if (numOf s i).ok = true then some ⟨numKind (numOf s i).float, none, some (numOf s i).base, (numOf s i).stop⟩ else none
def quotTok (s : ByteArray) (i : Nat) (raw bytes : Bool) : Option TokR :=
  match quotOf s i raw bytes with
  | .good v n => some ⟨if bytes = true then kBytes else kString, some ⟨v.toArray⟩, none, n⟩
  | .bad _ => none
def wordTok (s : ByteArray) (i : Nat) : TokR :=
  if kwB (upperS (s.extract i (partsEnd s i))) = true then ⟨upperS (s.extract i (partsEnd s i)), none, none, partsEnd s i⟩ else ⟨kIdent, some (s.extract i (partsEnd s i)), none, partsEnd s i⟩
def signTok (s : ByteArray) (i : Nat) : Option TokR := (signOf s i).map fun p => ⟨p.1, none, none, p.2⟩
def tokOf (s : ByteArray) (i : Nat) (path after : Bool) : Option TokR :=
  if i = s.size then some ⟨kEof, none, none, i⟩
  else if path = true ∧ partB (bt s i) = true then some ⟨kIdent, some (s.extract i (partsEnd s i)), none, partsEnd s i⟩
  else if bt s i = 96 then backTok s i
  else if digitB (bt s i) = true ∨ dotNum s i after then numTok s i
  else if atName s i then some ⟨kParam, some (s.extract (i + 1) (partsEnd s (i + 1))), none, partsEnd s (i + 1)⟩
  else match prefOf s i with
  | some p => quotTok s (i + p.1) p.2.1 p.2.2
  | none => if letterB (bt s i) = true then some (wordTok s i) else signTok s i

theorem prefFrom_lt {s : ByteArray} {i : Nat} : ∀ (f : Nat) (raw bytes : Bool) (n : Nat) (p : Nat × Bool × Bool), prefFrom s i f raw bytes n = some p → i + p.1 < s.size
  | 0, _, _, _, _, h => by cases h
  | f + 1, raw, bytes, n, p, h => by
    rw [prefFrom] at h
    split at h
    · rename_i hlt
      split at h
      · cases h; exact hlt
      · split at h
        · exact prefFrom_lt f _ _ _ _ h
        · split at h
          · exact prefFrom_lt f _ _ _ _ h
          · cases h
    · cases h
theorem prefOf_lt {s : ByteArray} {i : Nat} {p : Nat × Bool × Bool} (h : prefOf s i = some p) : i + p.1 < s.size := prefFrom_lt _ _ _ _ _ h
end Go.Proofs.YtmkkeacbabmaeaaGreatDoor
namespace Go.Proofs.YtmkkeacbabmaeaaGreatDoor
open Go.RowKit Go.PlainAid

/-- A byte that the reference speaks of: tab, line feed, or one from the blank to the tilde. -/
def okB (c : Int) : Bool := decide (c = 9 ∨ c = 10 ∨ (32 ≤ c ∧ c ≤ 126))

theorem isNextDot_c (k : ByteArray) (w : World) :
    Calls Tryz.prog 56 #[.string k] w fun e w' => e = .returned (.bool (dottedB k)) ∧ w = w' := by
  go_enter Tryz.func56, Tryz.ntmps56
  go_wp2
  all_goals (go_ret; refine ⟨ret_bool ?_, rfl⟩; simp [dottedB, *]; try simp_all)

theorem decodeAt_c (s : ByteArray) (i : Nat) (W : World) (hi : i < s.size) (ha : bt s i < 128) :
    Calls Tryz.prog 47 #[.string (s.extract i s.size)] W fun e w' => e = .returned (.tuple #[.int .i32 (bt s i), .int .i64 1]) ∧ w' = W := by
  have hb := get_bt s i hi
  have hx : (s[i]'hi).toNat < 128 := by omega
  have h := Tryz.utf8_DecodeRuneInString_ascii (s.extract i s.size) (s[i]'hi) W (by
    rw [ByteArray.data_extract, Array.toList_extract, List.extract_eq_take_drop]
    have hz : s.data.toList.length = s.size := Array.length_toList
    rw [List.getElem?_take, if_pos (by omega), List.getElem?_drop, Nat.add_zero, List.getElem?_eq_getElem (by omega)]
    rfl) hx
  rw [hb] at h
  exact h
theorem decodeEnd_c (W : World) :
    Calls Tryz.prog 47 #[.string ⟨#[]⟩] W fun e w' => e = .returned (.tuple #[.int .i32 65533, .int .i64 0]) ∧ w' = W := by
  go_enter Tryz.func47, Tryz.ntmps47
  go_wp2
  go_ret2
  exact ⟨rfl, rfl⟩
theorem isSpace_c (c : Int) (W : World) (h : okB c = true) : Calls Tryz.prog 48 #[.int .i32 c] W fun e w' => e = .returned (.bool (blankB c)) ∧ w' = W := by
  have h2 : c = 9 ∨ c = 10 ∨ (32 ≤ c ∧ c ≤ 126) := of_decide_eq_true h
  have hk := Tryz.unicode_IsSpace c W (by omega) (by omega)
  have e : Lib.isSpaceL c = blankB c := by
    apply bool_ext
    rw [blankB_iff]
    unfold Lib.isSpaceL
    rw [decide_eq_true_iff]
    omega
  rw [e] at hk
  exact hk

set_option maxHeartbeats 4000000 in
set_option maxRecDepth 100000 in
theorem skipSpaces_c (s : ByteArray) (b f i : Nat) (x : LxS) (w : World) (hs : s.size ≤ 4096) (hi : i ≤ s.size) (hok : ∀ j, j < s.size → okB (bt s j) = true) (hx : LxAt w b f x) (hp : x.pos = i) (hf : FileAt w f s (.slice none 0 0)) :
    Calls Tryz.prog 35 #[.pointer (some ⟨b, 0, none⟩)] w fun e w' => e = .returned (.tuple #[]) ∧ LxAt w' b f { x with pos := (blanksEnd s i : Nat) } ∧ Only b w w' := by
  have hne := hf.ne hx
  have HF := Lib.hid hf
  have HK := Lib.hid hok
  go_enter Tryz.func35, Tryz.ntmps35
  go_wp2_with fail
  go_loopw [2] (fun _ wr => ∃ j : Nat, j ≤ s.size ∧ LxAt wr b f { x with pos := (j : Int) } ∧ Only b w wr ∧ Hid (blanksEnd s j = blanksEnd s i)) (fun _ wr => match wr.cell? ⟨b, 9, none⟩ with | some (.int .i64 p) => s.size - p.toNat | _ => 0)
  case atStart => exact ⟨i, hi, by rw [← hp]; exact hx, Only.refl b w, rfl⟩
  case round =>
    obtain ⟨j, hj, hxj, hoj, Hend⟩ := hrel
    have hfj := HF.out.only hoj hne
    have heof := eof_c hj hxj hfj rfl
    by_cases hlt : j < s.size
    · rw [decide_eq_false (show ¬ s.size ≤ j by omega)] at heof
      have Heof := Lib.hid heof
      have hc0 := hxj.cell0
      have hc9 := hxj.cell9
      have hc1 := hfj.cell1
      have hoc := HK.out j hlt
      have hdec := fun W => decodeAt_c s j W hlt (by have h2 : bt s j = 9 ∨ bt s j = 10 ∨ (32 ≤ bt s j ∧ bt s j ≤ 126) := of_decide_eq_true hoc; omega)
      have hsp := fun W => isSpace_c (bt s j) W hoc
      have Hdec := Lib.hid hdec
      have Hsp := Lib.hid hsp
      have Hxj := Lib.hid hxj
      have Hc9 := Lib.hid hc9
      clear heof hdec hsp hxj hx hf hok hoc
      go_wp2_with (go_at_call 46; refine Heof.out.mono ?_; rintro e w' ⟨rfl, n', rfl⟩)
      obtain ⟨w2, hw2⟩ : ∃ w2, wr.drewN n' = w2 := ⟨_, rfl⟩
      rw [hw2]
      have Hx2 : Hid (LxAt w2 b f { x with pos := (j : Int) }) := Lib.hid (by rw [← hw2]; exact Hxj.out)
      have ho2 : Only b w w2 := by rw [← hw2]; exact hoj.trans ⟨rfl, rfl, rfl, Nat.le_refl _, fun _ _ _ => rfl⟩
      have d0 : w2.cell? ⟨b, 0, none⟩ = some (.pointer (some ⟨f, 0, none⟩)) := by rw [← hw2]; exact hc0
      have d9 : w2.cell? ⟨b, 9, none⟩ = some (.int .i64 j) := by rw [← hw2]; exact hc9
      have d1 : w2.cell? ⟨f, 1, none⟩ = some (.string s) := by rw [← hw2]; exact hc1
      clear hw2 hc0 hc9 hc1 hoj Hxj Heof
      go_quiet ((go_at_call 47; refine Calls.quiet_of_same (Hdec.out _)))
      have hx3 : LxAt (w2.drewN nq) b f { x with pos := (j : Int) } := Hx2.out
      have ho3 : Only b w (w2.drewN nq) := ho2.trans ⟨rfl, rfl, rfl, Nat.le_refl _, fun _ _ _ => rfl⟩
      clear d0 d9 d1 Hx2 ho2 Hdec
      obtain ⟨w3, hw3⟩ : ∃ w3, w2.drewN nq = w3 := ⟨_, rfl⟩
      rw [hw3] at hx3 ho3 ⊢
      clear hw3
      cases hbl : blankB (bt s j) with
      | true =>
        have Hsk := Lib.hid (skipN_c (s := s) 1 (by omega) (show j + 1 ≤ s.size by omega) hx3 rfl)
        have hy := hx3.setPos ((j + 1 : Nat) : Int)
        have ho4 : Only b w (w3.setCell ⟨b, 9, none⟩ (.int .i64 ((j + 1 : Nat) : Int))) := ho3.setCell 9 _
        have He2 : Hid (blanksEnd s (j + 1) = blanksEnd s i) := by show _ = _; rw [← Hend.out, blanksEnd_go hlt hbl]
        have Hm := Lib.hid hy.cell9
        have Hy := Lib.hid hy
        clear hx3 hy
        go_wp2_with (first
          | (go_at_call 48; refine (Hsp.out _).mono ?_; rintro e w' ⟨rfl, rfl⟩; rw [hbl])
          | (go_at_call 49; refine Hsk.out.mono ?_; rintro e w' ⟨rfl, rfl⟩))
        refine ⟨⟨j + 1, hlt, Hy.out, ho4, He2⟩, ?_⟩
        have m1 := Hm.out
        simp only [Int.natCast_add, Int.cast_ofNat_Int] at m1
        rw [Hc9.out]
        simp only [m1]
        omega
      | false =>
        have He2 : blanksEnd s i = j := by rw [← Hend.out]; exact blanksEnd_stop (fun h => by rw [hbl] at h; cases h.2)
        have Hx3 := Lib.hid hx3
        clear hx3
        go_wp2_with (go_at_call 48; refine (Hsp.out _).mono ?_; rintro e w' ⟨rfl, rfl⟩; rw [hbl])
        refine bodyPost_ret (results_none rfl _ _ _) rfl ?_
        rw [He2]
        exact ⟨rfl, Hx3.out, ho3⟩
    · rw [decide_eq_true (show s.size ≤ j by omega)] at heof
      have Heof := Lib.hid heof
      have Hxj := Lib.hid hxj
      clear heof hxj hx hf hok
      go_wp2_with (go_at_call 46; refine Heof.out.mono ?_; rintro e w' ⟨rfl, n', rfl⟩)
      go_end0
      have e : blanksEnd s i = j := by rw [← Hend.out]; exact blanksEnd_stop (fun h => hlt h.1)
      rw [e]
      exact ⟨rfl, Hxj.out, hoj.trans ⟨rfl, rfl, rfl, Nat.le_refl _, fun _ _ _ => rfl⟩⟩
end Go.Proofs.YtmkkeacbabmaeaaGreatDoor
namespace Go.Proofs.YtmkkeacbabmaeaaGreatDoor
open Go.RowKit Go.PlainAid

theorem IdStart_c (c : Int) (w : World) :
    Calls Tryz.prog 59 #[.int .u8 c] w fun e w' => e = .returned (.bool (letterB c)) ∧ w = w' := by
  go_enter Tryz.func59, Tryz.ntmps59
  go_wp2
  all_goals (go_ret; refine ⟨ret_bool (bool_ext ?_), rfl⟩; rw [letterB_iff]; simp; try omega)
theorem IdPart_c (c : Int) (w : World) :
    Calls Tryz.prog 53 #[.int .u8 c] w fun e w' => e = .returned (.bool (partB c)) ∧ w = w' := by
  go_enter Tryz.func53, Tryz.ntmps53
  go_wp2
  all_goals (go_ret; refine ⟨ret_bool (bool_ext ?_), rfl⟩; rw [partB_iff]; simp; try omega)
theorem IsDigit_c (c : Int) (w : World) :
    Calls Tryz.prog 57 #[.int .u8 c] w fun e w' => e = .returned (.bool (digitB c)) ∧ w = w' := by
  go_enter Tryz.func57, Tryz.ntmps57
  go_wp2
  all_goals (go_ret; refine ⟨ret_bool (bool_ext ?_), rfl⟩; rw [digitB_iff]; simp; try omega)
def hexB (c : Int) : Bool := decide (0 ≤ hexV c)
theorem hexB_iff (c : Int) : hexB c = true ↔ (48 ≤ c ∧ c ≤ 57) ∨ (97 ≤ c ∧ c ≤ 102) ∨ (65 ≤ c ∧ c ≤ 70) := by
  unfold hexB hexV
  rw [decide_eq_true_iff]
  split
  · omega
  · split
    · omega
    · split <;> omega
theorem IsHex_c (c : Int) (w : World) :
    Calls Tryz.prog 75 #[.int .u8 c] w fun e w' => e = .returned (.bool (hexB c)) ∧ w = w' := by
  go_enter Tryz.func75, Tryz.ntmps75
  go_wp2
  all_goals (go_ret; refine ⟨ret_bool (bool_ext ?_), rfl⟩; rw [hexB_iff]; simp; try omega)
def octB (c : Int) : Bool := decide (48 ≤ c ∧ c ≤ 55)
theorem IsOct_c (c : Int) (w : World) :
    Calls Tryz.prog 79 #[.int .u8 c] w fun e w' => e = .returned (.bool (octB c)) ∧ w = w' := by
  go_enter Tryz.func79, Tryz.ntmps79
  go_wp2
  all_goals (go_ret; refine ⟨ret_bool (bool_ext ?_), rfl⟩; unfold octB; simp; try omega)
end Go.Proofs.YtmkkeacbabmaeaaGreatDoor
namespace Go.Proofs.YtmkkeacbabmaeaaGreatDoor
open Go.PlainAid

/-- The parser's loop: where it ends, and whether the number is an integer. -/
def nFrom (s : ByteArray) (hex : Bool) : Nat → Nat → Bool → Bool → Nat × Bool
  | 0, k, int, _ => (k, int)
  | f + 1, k, int, exp =>
    if k < s.size then
      (if (hex = false ∧ digitB (bt s k) = true) ∨ (hex = true ∧ 0 ≤ hexV (bt s k)) then nFrom s hex f (k + 1) int exp
      else if exp = false ∧ int = true ∧ hex = false ∧ bt s k = 46 then nFrom s hex f (k + 1) false exp
      else if exp = false ∧ hex = false ∧ isE (bt s k) then
        (if expAt s k < s.size ∧ digitB (bt s (expAt s k)) = true then nFrom s hex f (expAt s k) false true else (k, int))
      else (k, int))
    else (k, int)

section
variable {s : ByteArray} {hex int exp : Bool} {f k : Nat}
theorem nFrom_end (h : ¬ k < s.size) : nFrom s hex f k int exp = (k, int) := by
  cases f with
  | zero => rfl
  | succ f => rw [nFrom, if_neg h]
theorem nFrom_digit (h : k < s.size) (hd : (hex = false ∧ digitB (bt s k) = true) ∨ (hex = true ∧ 0 ≤ hexV (bt s k))) : nFrom s hex (f + 1) k int exp = nFrom s hex f (k + 1) int exp := by rw [nFrom, if_pos h, if_pos hd]
theorem nFrom_dot (h : k < s.size) (hd : ¬ digitB (bt s k) = true) (hp : bt s k = 46) : nFrom s false (f + 1) k true false = nFrom s false f (k + 1) false false := by
  rw [nFrom, if_pos h, if_neg (by simp [hd]), if_pos ⟨rfl, rfl, rfl, hp⟩]
theorem nFrom_exp (h : k < s.size) (hd : ¬ digitB (bt s k) = true) (he : isE (bt s k)) (hg : expAt s k < s.size ∧ digitB (bt s (expAt s k)) = true) : nFrom s false (f + 1) k int false = nFrom s false f (expAt s k) false true := by
  have hp : ¬ bt s k = 46 := by rcases he with he | he <;> omega
  rw [nFrom, if_pos h, if_neg (by simp [hd]), if_neg (by simp [hp]), if_pos ⟨rfl, rfl, he⟩, if_pos hg]
theorem nFrom_noexp (h : k < s.size) (hd : ¬ digitB (bt s k) = true) (he : isE (bt s k)) (hg : ¬ (expAt s k < s.size ∧ digitB (bt s (expAt s k)) = true)) : nFrom s false (f + 1) k int false = (k, int) := by
  have hp : ¬ bt s k = 46 := by rcases he with he | he <;> omega
  rw [nFrom, if_pos h, if_neg (by simp [hd]), if_neg (by simp [hp]), if_pos ⟨rfl, rfl, he⟩, if_neg hg]
theorem nFrom_stop (h : k < s.size) (hd : ¬ ((hex = false ∧ digitB (bt s k) = true) ∨ (hex = true ∧ 0 ≤ hexV (bt s k)))) (hp : ¬ (exp = false ∧ int = true ∧ hex = false ∧ bt s k = 46)) (he : ¬ (exp = false ∧ hex = false ∧ isE (bt s k))) : nFrom s hex (f + 1) k int exp = (k, int) := by
  rw [nFrom, if_pos h, if_neg hd, if_neg hp, if_neg he]
end

theorem n_hex (s : ByteArray) : ∀ (f k : Nat), s.size - k < f → nFrom s true f k true false = (hexEnd s k, true)
  | 0, k, h => by omega
  | f + 1, k, h => by
    by_cases hk : k < s.size
    · by_cases hd : 0 ≤ hexV (bt s k)
      · rw [nFrom_digit hk (Or.inr ⟨rfl, hd⟩), n_hex s f (k + 1) (by omega), ← hexEnd_go hk hd]
      · rw [nFrom_stop hk (by simp [hd]) (by simp) (by simp), hexEnd_stop (fun h => hd h.2)]
    · rw [nFrom_end hk, hexEnd_stop (fun h => hk h.1)]
theorem n_exp (s : ByteArray) (int : Bool) : ∀ (f k : Nat), s.size - k < f → nFrom s false f k int true = (digitsEnd s k, int)
  | 0, k, h => by omega
  | f + 1, k, h => by
    by_cases hk : k < s.size
    · by_cases hd : digitB (bt s k) = true
      · rw [nFrom_digit hk (Or.inl ⟨rfl, hd⟩), n_exp s int f (k + 1) (by omega), ← digitsEnd_go hk hd]
      · rw [nFrom_stop hk (by simp [hd]) (by simp) (by simp), digitsEnd_stop (fun h => hd h.2)]
    · rw [nFrom_end hk, digitsEnd_stop (fun h => hk h.1)]
/-- Behind the digits: an exponent, or the end. -/
def nExp (s : ByteArray) (e : Nat) (int : Bool) : Nat × Bool :=
  if e < s.size ∧ isE (bt s e) then (if expAt s e < s.size ∧ digitB (bt s (expAt s e)) = true then (digitsEnd s (expAt s e), false) else (e, int)) else (e, int)
theorem expAt_gt (s : ByteArray) (e : Nat) : e < expAt s e := by unfold expAt; split <;> omega
theorem n_float (s : ByteArray) : ∀ (f k : Nat), s.size - k < f → nFrom s false f k false false = nExp s (digitsEnd s k) false
  | 0, k, h => by omega
  | f + 1, k, h => by
    by_cases hk : k < s.size
    · by_cases hd : digitB (bt s k) = true
      · rw [nFrom_digit hk (Or.inl ⟨rfl, hd⟩), n_float s f (k + 1) (by omega), ← digitsEnd_go hk hd]
      · rw [digitsEnd_stop (fun h => hd h.2)]
        unfold nExp
        by_cases he : isE (bt s k)
        · rw [if_pos ⟨hk, he⟩]
          by_cases hg : expAt s k < s.size ∧ digitB (bt s (expAt s k)) = true
          · rw [if_pos hg, nFrom_exp hk hd he hg, n_exp s false f _ (by have := expAt_gt s k; omega)]
          · rw [if_neg hg, nFrom_noexp hk hd he hg]
        · rw [if_neg (fun h => he h.2), nFrom_stop hk (by simp [hd]) (by simp) (by simp [he])]
    · rw [nFrom_end hk, digitsEnd_stop (fun h => hk h.1)]
      unfold nExp
      rw [if_neg (fun h => hk h.1)]
theorem n_int (s : ByteArray) : ∀ (f k : Nat), s.size - k < f → nFrom s false f k true false =
    if digitsEnd s k < s.size ∧ bt s (digitsEnd s k) = 46 then nExp s (digitsEnd s (digitsEnd s k + 1)) false else nExp s (digitsEnd s k) true
  | 0, k, h => by omega
  | f + 1, k, h => by
    by_cases hk : k < s.size
    · by_cases hd : digitB (bt s k) = true
      · rw [nFrom_digit hk (Or.inl ⟨rfl, hd⟩), n_int s f (k + 1) (by omega), ← digitsEnd_go hk hd]
      · rw [digitsEnd_stop (fun h => hd h.2)]
        by_cases hp : bt s k = 46
        · rw [if_pos ⟨hk, hp⟩, nFrom_dot hk hd hp, n_float s f (k + 1) (by omega)]
        · rw [if_neg (fun h => hp h.2)]
          unfold nExp
          by_cases he : isE (bt s k)
          · rw [if_pos ⟨hk, he⟩]
            by_cases hg : expAt s k < s.size ∧ digitB (bt s (expAt s k)) = true
            · rw [if_pos hg, nFrom_exp hk hd he hg, n_exp s false f _ (by have := expAt_gt s k; omega)]
            · rw [if_neg hg, nFrom_noexp hk hd he hg]
          · rw [if_neg (fun h => he h.2), nFrom_stop hk (by simp [hd]) (by simp [hp]) (by simp [he])]
    · rw [nFrom_end hk, digitsEnd_stop (fun h => hk h.1), if_neg (fun h => hk h.1)]
      unfold nExp
      rw [if_neg (fun h => hk h.1)]

theorem isE_loose {s : ByteArray} {e : Nat} (h : e < s.size ∧ isE (bt s e)) : loose s e = false := by
  rw [loose_in h.1]
  have : partB (bt s e) = true := (partB_iff _).2 (by rcases h.2 with h2 | h2 <;> omega)
  rw [this]; rfl
theorem exp_num (s : ByteArray) (e : Nat) (int : Bool) (b : Int) (hb : b = if int = true then 10 else 0) : expPart s e (!int) b = ⟨(nExp s e int).1, loose s (nExp s e int).1, !(nExp s e int).2, if (nExp s e int).2 = true then 10 else 0⟩ := by
  subst hb
  unfold nExp
  by_cases h : e < s.size ∧ isE (bt s e)
  · rw [if_pos h]
    by_cases hg : expAt s e < s.size ∧ digitB (bt s (expAt s e)) = true
    · rw [if_pos hg, expPart_good h hg]; rfl
    · rw [if_neg hg, expPart_bad h hg, isE_loose h]
  · rw [if_neg h, expPart_none h]

theorem num_dec (s : ByteArray) (i f : Nat) (hf : s.size - i < f) (h : ¬ isHexAt s i) :
    numOf s i = ⟨(nFrom s false f i true false).1, loose s (nFrom s false f i true false).1, !(nFrom s false f i true false).2, if (nFrom s false f i true false).2 = true then 10 else 0⟩ := by
  rw [n_int s f i hf]
  by_cases h2 : digitsEnd s i < s.size ∧ bt s (digitsEnd s i) = 46
  · rw [numOf_dot h h2, if_pos h2]; exact exp_num s _ false 0 rfl
  · rw [numOf_plain h h2, if_neg h2]; exact exp_num s _ true 10 rfl
theorem num_hex (s : ByteArray) (i f : Nat) (hf : s.size - (i + 2) < f) (h : isHexAt s i) :
    numOf s i = ⟨(nFrom s true f (i + 2) true false).1, loose s (nFrom s true f (i + 2) true false).1, !(nFrom s true f (i + 2) true false).2, 16⟩ := by
  rw [n_hex s f (i + 2) hf, numOf_hex h]; rfl
end Go.Proofs.YtmkkeacbabmaeaaGreatDoor
namespace Go.Proofs.YtmkkeacbabmaeaaGreatDoor
open Go.PlainAid

theorem starts_two (s : ByteArray) (i : Nat) (a b : UInt8) : startsB s i ⟨#[a, b]⟩ = decide (i + 1 < s.size ∧ bt s i = (a.toNat : Int) ∧ bt s (i + 1) = (b.toNat : Int)) := by
  apply bool_ext
  unfold startsB
  have hz : (ByteArray.mk #[a, b]).size = 2 := rfl
  have hl : (ByteArray.mk #[a, b]).toList = [a, b] := by rw [ByteArray.toList_eq]
  rw [hz, hl]
  simp only [Bool.and_eq_true, decide_eq_true_eq, beq_iff_eq]
  constructor
  · rintro ⟨h1, h2⟩
    have hi : i < s.size := by omega
    have hi2 : i + 1 < s.size := by omega
    rw [ByteArray.toList_eq, ByteArray.data_extract, Array.toList_extract] at h2
    simp only [List.extract_eq_take_drop] at h2
    have e : i + 2 - i = 2 := by omega
    rw [e] at h2
    have g0 : (s.data.toList.drop i).take 2 = [a, b] := h2
    have g1 : ((s.data.toList.drop i).take 2)[0]? = some a := by rw [g0]; rfl
    have g2 : ((s.data.toList.drop i).take 2)[1]? = some b := by rw [g0]; rfl
    rw [List.getElem?_take, if_pos (by decide), List.getElem?_drop, Nat.add_zero] at g1
    rw [List.getElem?_take, if_pos (by decide), List.getElem?_drop] at g2
    refine ⟨hi2, ?_, ?_⟩
    · rw [← get_bt s i hi]
      have : s[i]'hi = a := by
        have h := List.getElem?_eq_some_iff.1 g1
        exact h.2
      rw [this]
    · rw [← get_bt s (i + 1) hi2]
      have : s[i + 1]'hi2 = b := by
        have h := List.getElem?_eq_some_iff.1 g2
        exact h.2
      rw [this]
  · rintro ⟨h1, h2, h3⟩
    refine ⟨by omega, ?_⟩
    have hi : i < s.size := by omega
    rw [← get_bt s i hi] at h2
    rw [← get_bt s (i + 1) h1] at h3
    have e1 : s[i]'hi = a := UInt8.toNat_inj.1 (by omega)
    have e2 : s[i + 1]'h1 = b := UInt8.toNat_inj.1 (by omega)
    rw [ByteArray.toList_eq, ByteArray.data_extract, Array.toList_extract]
    simp only [List.extract_eq_take_drop]
    have e : i + 2 - i = 2 := by omega
    rw [e]
    have hz2 : s.data.toList.length = s.size := Array.length_toList
    rw [List.drop_eq_getElem_cons (by omega), List.drop_eq_getElem_cons (by omega)]
    have f1 : s.data.toList[i]'(by omega) = a := e1
    have f2 : s.data.toList[i + 1]'(by omega) = b := e2
    rw [f1, f2]
    rfl
theorem hexAt_iff (s : ByteArray) (i : Nat) : isHexAt s i ↔ (i < s.size ∧ bt s i = 48) ∧ ((i + 1 < s.size ∧ bt s (i + 1) = 120) ∨ (i + 1 < s.size ∧ bt s (i + 1) = 88)) := by
  unfold isHexAt
  rw [starts_two, starts_two, decide_eq_true_iff, decide_eq_true_iff]
  show (_ ∧ bt s i = 48 ∧ bt s (i + 1) = 120) ∨ (_ ∧ bt s i = 48 ∧ bt s (i + 1) = 88) ↔ _
  constructor
  · rintro (⟨h1, h2, h3⟩ | ⟨h1, h2, h3⟩)
    · exact ⟨⟨by omega, h2⟩, Or.inl ⟨h1, h3⟩⟩
    · exact ⟨⟨by omega, h2⟩, Or.inr ⟨h1, h3⟩⟩
  · rintro ⟨⟨_, h2⟩, ⟨h1, h3⟩ | ⟨h1, h3⟩⟩
    · exact Or.inl ⟨h1, h2, h3⟩
    · exact Or.inr ⟨h1, h2, h3⟩
end Go.Proofs.YtmkkeacbabmaeaaGreatDoor
