/- A round of the loop over a literal: escapes of four, eight hexadecimal digits. No condition. -/
import Derived.Test.YtmkkeacbabmaeaaGreatDoorM07
import Derived.StillTailTactics
namespace Go.Proofs.YtmkkeacbabmaeaaGreatDoor
open Go.RowKit Go.PlainAid

theorem slice_four (w : World) (g n : Nat) (h : n ≤ 4) : (Instr.sliceAt 128 (.pointer (some ⟨g, 0, none⟩)) none (some (.int .i64 (n : Int))) none).run Tryz.prog w = .ok (.slice (some ⟨g, 0, none⟩) n 4) w := by
  have ht : Tryz.prog.underlying 128 = some (.array (Tryz.prog.arrayLen 128) (Tryz.prog.elem 128)) := by kernel_rfl
  have hl : Tryz.prog.arrayLen 128 = 4 := by kernel_rfl
  have he : Tryz.prog.elem 128 = 5 := by kernel_rfl
  obtain ⟨i, hi, hz, hsz, hby⟩ := info_parts info_u8
  rw [run_sliceAt_array_h w _ _ ht .i64 n (by omega) (by rw [hl]; omega), hl, he]
  simp [sizeOf, typeInfo, hi, slicedAt]
  rfl
set_option maxHeartbeats 8000000 in
set_option maxRecDepth 1000000 in
theorem q_u117 (g : Nat → Value) (s q name : ByteArray) (raw uni : Bool) (b f i j B fu : Nat) (v15 : Value) (l : List UInt8) (x : LxS) (w w0 : World) (R0 : QRes) (Q0 : Exit → Act → World → Prop) (h : QHead s q raw uni b f i B x w0 R0 j v15 l fu w)
    (huni : uni = true) (hraw : raw = false) (hlt : i + j < s.size) (hne : startsB s (i + j) q = false) (h92 : bt s (i + j) = 92) (hd : bt s (i + j + 1) = 117) (hpan : (∃ n, R0 = .bad n) → ∀ a' w' ch, a'.defers = [] → Thrown B w0 (.panicked ch) w' → Q0 (.panic ch) a' w') :
    Code.wp Tryz.prog qBody (Exit.then (fun a' w' => QInv s q name raw uni b f i B x w0 R0 a' w' ∧ qMu s i a' < s.size - i - j) Q0) ⟨#[.pointer (some ⟨b, 0, none⟩), .string q, .bool raw, .bool uni, .string name, .bool false, g 6, g 7, g 8, g 9, g 10, g 11, g 12, g 13, .int .i64 (j : Int), v15, .bool false, g 17, g 18, g 19, g 20, g 21, g 22, g 23, g 24, g 25, g 26, g 27, g 28, g 29, g 30, g 31, g 32, g 33, g 34, g 35, g 36, g 37, g 38, g 39, g 40, g 41, g 42, g 43, g 44, g 45, g 46, g 47, g 48, g 49, g 50, g 51, g 52, g 53, g 54, g 55, g 56, g 57, g 58, g 59, g 60, g 61, g 62, g 63, g 64, g 65, g 66, g 67, g 68, g 69, g 70, g 71, g 72, g 73, g 74, g 75, g 76, g 77, g 78, g 79, g 80, g 81, g 82, g 83, g 84, g 85, g 86, g 87, g 88, g 89, g 90, g 91, g 92, g 93, g 94, g 95, g 96, g 97, g 98, g 99, g 100, g 101, g 102, g 103, g 104, g 105, g 106, g 107, g 108, g 109, g 110, g 111, g 112, g 113, g 114, g 115, g 116, g 117, g 118, g 119, g 120, g 121, g 122, g 123, g 124, g 125, g 126, g 127, g 128, g 129, g 130, g 131, g 132, g 133, g 134, g 135, g 136, g 137, g 138, g 139, g 140, g 141, g 142, g 143, g 144, g 145, g 146, g 147, g 148, g 149, g 150, g 151, g 152, g 153, g 154, g 155, g 156, g 157, g 158, g 159, g 160, g 161, g 162, g 163, g 164, g 165, g 166, g 167, g 168, g 169, g 170, g 171, g 172, g 173, g 174, g 175, g 176, g 177, g 178, g 179, g 180, g 181, g 182, g 183, g 184, g 185, g 186, g 187, g 188, g 189, g 190, g 191, g 192, g 193, g 194, g 195, g 196, g 197, g 198, g 199, g 200, g 201, g 202, g 203, g 204, g 205, g 206, g 207, g 208, g 209, g 210, g 211, g 212, g 213, g 214, g 215, g 216, g 217, g 218, g 219, g 220, g 221, g 222, g 223, g 224, g 225, g 226, g 227, g 228, g 229, g 230, g 231, g 232, g 233, g 234, g 235, g 236, g 237, g 238, g 239, g 240, g 241, g 242, g 243, g 244, g 245, g 246, g 247, g 248, g 249, g 250, g 251, g 252, g 253, g 254, g 255, g 256, g 257, g 258, g 259, g 260, g 261, g 262, g 263, g 264, g 265, g 266, g 267, g 268, g 269, g 270, g 271, g 272, g 273, g 274, g 275, g 276, g 277, g 278, g 279, g 280, g 281, g 282, g 283, g 284, g 285, g 286, g 287, g 288, g 289, g 290, g 291, g 292, g 293, g 294, g 295, g 296, g 297, g 298, g 299, g 300, g 301, g 302, g 303, g 304, g 305, g 306, g 307, g 308, g 309, g 310, g 311, g 312, g 313, g 314, g 315, g 316, g 317, g 318, g 319, g 320, g 321, g 322, g 323, g 324, g 325, g 326, g 327, g 328, g 329, g 330, g 331, g 332, g 333, g 334, g 335, g 336, g 337, g 338, g 339, g 340, g 341, g 342, g 343, g 344, g 345, g 346, g 347, g 348, g 349, g 350, g 351, g 352, g 353, g 354, g 355, g 356, g 357, g 358, g 359, g 360, g 361, g 362, g 363, g 364, g 365, g 366, g 367, g 368, g 369, g 370, g 371, g 372, g 373, g 374, g 375, g 376, g 377, g 378, g 379, g 380, g 381, g 382, g 383, g 384, g 385, g 386, g 387, g 388, g 389, g 390, g 391, g 392, g 393, g 394, g 395, g 396, g 397, g 398, g 399, g 400, g 401, g 402, g 403, g 404, g 405, g 406, g 407, g 408, g 409, g 410, g 411, g 412, g 413, g 414, g 415, g 416, g 417, g 418, g 419, g 420, g 421, g 422, g 423, g 424, g 425, g 426, g 427, g 428, g 429, g 430, g 431, g 432, g 433, g 434, g 435, g 436, g 437, g 438, g 439, g 440, g 441, g 442, g 443, g 444, g 445, g 446, g 447, g 448, g 449, g 450, g 451, g 452, g 453, g 454, g 455, g 456, g 457, g 458, g 459, g 460, g 461, g 462, g 463, g 464, g 465, g 466, g 467, g 468, g 469, g 470, g 471, g 472, g 473, g 474, g 475, g 476, g 477, g 478, g 479, g 480, g 481, g 482, g 483, g 484, g 485, g 486, g 487, g 488, g 489, g 490, g 491, g 492, g 493, g 494, g 495, g 496, g 497, g 498, g 499, g 500, g 501, g 502, g 503, g 504, g 505, g 506, g 507, g 508, g 509, g 510, g 511], []⟩ w := by
  conv => arg 2; whnf
  have hs := h.env.small
  have hj := h.le
  have hq3 : 1 ≤ q.size ∧ q.size ≤ 3 := by have := h.q13; omega
  obtain ⟨he10, hnl⟩ := h.esc _ hlt h92
  have hst := (starts_eq s q (i + j) hj).trans hne
  obtain ⟨i0, hi0, hz0, hz1, hz2⟩ := info_parts info_u8
  have hll := h.len
  subst hraw
  subst huni
  clear hnl
  have Hbad : Hid (escOf s (i + j) (!true) = none → ∃ n, R0 = .bad n) := by
    intro he
    rw [← h.res]
    obtain ⟨k, rfl⟩ : ∃ k, fu = k + 1 := ⟨fu - 1, by have := h.fuel; omega⟩
    exact ⟨_, quotFrom_escbad hlt hne (fun hn => by have hn1 := hn.1; unfold isNL at hn1; omega) h92 he⟩
  have Hgo : Hid (∀ p : List UInt8 × Nat, escOf s (i + j) (!true) = some p → quotFrom s q false (!true) (fu - 1) p.2 (l ++ p.1) = R0) := by
    intro p he
    rw [← h.res]
    obtain ⟨k, rfl⟩ : ∃ k, fu = k + 1 := ⟨fu - 1, by have := h.fuel; omega⟩
    exact (quotFrom_esc hlt hne (fun hn => by have hn1 := hn.1; unfold isNL at hn1; omega) h92 he).symm
  have Hesc : Hid (escOf s (i + j) (!true) = escHex s (i + j) 4) := escOf_digits he10 hd rfl (no_simple (by decide)) (by decide)
  go_wp2_with fail
  refine (h.peekOk _ h.low j _ rfl (by omega)).mono ?_
  rintro e w' ⟨rfl, n1, rfl⟩
  rw [decide_eq_true hlt]
  go_wp2_with fail
  refine (h.slice _ (h.low.trans (below_dn _ _ _)) j (j + q.size) _ _ rfl (by omega) (by omega) (by omega) (by omega)).mono ?_
  rintro e w' ⟨rfl, n2, rfl⟩
  rw [show i + (j + q.size) = i + j + q.size by omega]
  go_wp2_with fail
  refine (h.peek _ (h.low.trans (below_dn _ _ _)) j _ rfl hlt).mono ?_
  rintro e w' ⟨rfl, n3, rfl⟩
  rw [h92]
  clear h92
  go_wp2_with fail
  refine (h.peekOk _ (h.low.trans (below_dn _ _ _)) (j + 1) _ (by omega) (by omega)).mono ?_
  rintro e w' ⟨rfl, n4, rfl⟩
  rw [decide_eq_true (show i + (j + 1) < s.size by omega)]
  go_wp2_with fail
  refine (h.peek _ (h.low.trans (below_dn _ _ _)) (j + 1) _ (by omega) (by omega)).mono ?_
  rintro e w' ⟨rfl, n5, rfl⟩
  rw [show bt s (i + (j + 1)) = 117 from hd]
  clear hd
  have Hpan := Lib.hid hpan
  clear hpan
  go_wp2_with fail
  refine loopu_c s q name false true b f i j (j + 2) B fu 4 117 v15 l x w w0 R0 _ _ _ h (by omega) (by omega) ⟨rfl, rfl, rfl, rfl, rfl, rfl, rfl, rfl, rfl, rfl, rfl, rfl, rfl, 0, rfl, by omega, fun k hk => by omega, _, rfl⟩ ?_ ?_
  · intro hgood a' w' hI
    obtain ⟨v, hv, hv0, hvb⟩ := hexVal_good s 4 (i + (j + 2)) 0 0 hgood (by omega) hexBd_zero
    have hv1 : v ≤ 4294967295 := hexBd_le hvb (by decide)
    obtain ⟨t, ht⟩ : ∃ t, s.extract (i + (j + 2)) (i + (j + 2 + 4)) = t := ⟨_, rfl⟩
    have htz : t.size = 4 := by rw [← ht, ByteArray.size_extract]; omega
    have hvt : hexVal t t.size 0 0 = some v := by rw [htz, ← ht, hexVal_part s _ _ (by omega) 4 0 0 (by omega)]; exact hv
    have Hp := Lib.hid (fun W => parse_c t 16 32 v W (parse16_c t 32 v W (Or.inr ⟨rfl, hv1⟩) (by omega) (by omega) hvt))
    have Hres2 : Hid (¬ (1114111 < v ∨ (55296 ≤ v ∧ v < 57344)) → quotFrom s q false (!true) (fu - 1) (i + (j + 6)) (l ++ (Utf8.encode v).data.toList) = R0) := fun hb => Hgo.out ((Utf8.encode v).data.toList, i + (j + 6)) (by rw [Hesc.out, escHex_some (by omega) (show hexVal s 4 (i + j + 2) 0 = some v from hv) (hexPart_rune (by decide) hb), show i + j + 2 + 4 = i + (j + 6) by omega])
    have Hres3 : Hid ((1114111 < v ∨ (55296 ≤ v ∧ v < 57344)) → ∃ n, R0 = .bad n) := fun hb => Hbad.out (Hesc.out.trans (escHex_part (show hexVal s 4 (i + j + 2) 0 = some v from hv) (hexPart_bad (by decide) hb)))
    clear hgood hvb htz hvt hv
    obtain ⟨hlen, hdf, h0, h1, h2, h3, h4, h5, h14, h15, h16, h18, h22, m, hC, hm, hall, dr, rfl⟩ := hI
    obtain ⟨g2, rfl, hg⟩ := act_lit a' hlen hdf
    rw [hg] at h0 h1 h2 h3 h4 h5 h14 h15 h16 h18 h22 hC
    rw [h0, h1, h2, h3, h4, h5, h14, h15, h16, h18, show g2 22 = .int .i64 4 from h22]
    clear hlen hdf h0 h1 h2 h3 h4 h5 h14 h15 h16 h18 h22 hC hall hg
    go_wp2_with fail
    refine (h.slice _ (h.low.trans (below_dn _ _ _)) (j + 2) (j + 2 + 4) _ _ (by omega) (by omega) (by omega) (by omega) (by omega)).mono ?_
    rintro e w' ⟨rfl, n6, rfl⟩
    rw [ht]
    clear ht
    go_wp2_with fail
    refine (Hp.out _).mono ?_
    rintro e W2 ⟨rfl, hb2⟩
    have own2 := own_below (own_below h.own (below_dn _ w _)) hb2
    have low2 := (h.low.trans (below_dn _ w _)).trans (hb2.mono (h.low.trans (below_dn _ w _)).size)
    clear hb2
    have hcase : ((decide (55296 ≤ v) = false ∧ decide (1114111 < v) = false) ∨ (decide (55296 ≤ v) = true ∧ decide (v ≤ 57343) = false ∧ decide (1114111 < v) = false)) ∨ ((decide (55296 ≤ v) = true ∧ decide (v ≤ 57343) = true) ∨ (decide (55296 ≤ v) = true ∧ decide (v ≤ 57343) = false ∧ decide (1114111 < v) = true)) := by
      simp only [decide_eq_false_iff_not, decide_eq_true_eq]
      omega
    rcases hcase with hcase | hcase
    · have hbnd : v ≤ 1114111 ∧ (v < 55296 ∨ 57344 ≤ v) := by
        simp only [decide_eq_false_iff_not, decide_eq_true_eq] at hcase
        omega
      rcases hcase with ⟨hA, hC⟩ | ⟨hA, hB, hC⟩
      all_goals
        go_wp2_with fail
        refine (enc_c v hv0 (by omega) W2.heap.size 128 _ _ (four_row W2 _)).mono ?_
        rintro e W4 ⟨rfl, hcells, hb4⟩
        obtain ⟨hE1, hE4⟩ := enc_le v hv0
        have Hres := Hres2.out (by omega)
        obtain ⟨E, hE⟩ : ∃ E, (Utf8.encode v).data.toList = E := ⟨_, rfl⟩
        rw [hE] at hcells hE1 hE4 Hres ⊢
        have hx4 : RowKit.Below W2.heap.size W2 W4 := ((Below.refl _ _).alloc (Nat.le_refl _) _).trans hb4
        have own4 := own_below own2 hx4
        have hs4 := hx4.size
        have hs2 := low2.size
        have hs0 := (low2.trans (hx4.mono low2.size)).size
        clear hE hb4
        have hsl := slice_four W4 W2.heap.size E.length hE4
        go_wp2_with (at_builtin; refine wpList_append_own _ rfl _ _ 89 rfl w0.heap.size 5 i0 (.int .u8 0) 1 1 Tryz.underlying89 hi0 hz0 hz1 hz2 rfl (by decide) _ _ _ rfl own4 ⟨W2.heap.size, 0, none⟩ E.length 4 (Lib.byteCells E) rfl (by simp [Lib.byteCells]) hcells (Lib.byteCells_one _) (by unfold maxLen; omega) (by omega) (by omega) ?_; intro v' w1 hown' hgrow _)
        have R := quot_push (r := E) own4 low2 low2.size hx4 hown' hgrow rfl rfl
        obtain ⟨R1, R2⟩ := R
        clear hown' hgrow own4 own2 hcells hx4
        go_wp2_with fail
        refine ⟨⟨rfl, rfl, rfl, rfl, rfl, rfl, rfl, rfl, rfl, j + 6, l ++ E, fu - 1, rfl, ?_⟩, ?_⟩
        · exact { env := h.env, lx := h.lx, pos := h.pos, q13 := h.q13, le := by omega, own := R1, len := by simp; omega, low := R2, fuel := by have := h.fuel; omega, res := by exact Hres, ok := h.ok, esc := h.esc }
        · show s.size - i - ((j : Int) + 2 + 4).toNat < _
          omega
    · have hbnd : 1114111 < v ∨ (55296 ≤ v ∧ v < 57344) := by
        simp only [decide_eq_false_iff_not, decide_eq_true_eq] at hcase
        omega
      rcases hcase with ⟨hA, hB⟩ | ⟨hA, hB, hC⟩
      all_goals
        go_wp2_with fail
        refine wp_region_still_tail 16 (by kernel_rfl) (by kernel_rfl) ?_
        simp only [List.take_succ_cons, List.take_zero, List.drop_succ_cons, List.drop_zero]
        have hV := (low2).trans (drew_below w0.heap.size W2)
        generalize ({ heap := W2.heap, tape := W2.tape, drawn := W2.drawn + 1, os := W2.os, output := W2.output } : World) = V at hV ⊢
        have c9 := h.cell9w V hV
        repeat still_step
        refine wpStill_nil ?_
        go_wp2_with fail
        refine (h.panics V hV _ (i + j) (i + (j + 2 + 4)) _ _ (by omega) (by omega) (by omega) (by omega)).mono ?_
        rintro e w1 k
        obtain ⟨v, p, rfl, herr, hlow⟩ := k
        exact Hpan.out (Hres3.out (by omega)) _ _ _ rfl ⟨v, p, rfl, herr, hlow⟩
  · intro hbad a' w' ch hdf hth
    exact Hpan.out (Hbad.out (Hesc.out.trans (escHex_none (hexVal_bad s 4 (i + j + 2) 0 hbad)))) a' w' ch hdf hth
set_option maxHeartbeats 8000000 in
set_option maxRecDepth 1000000 in
theorem q_u85 (g : Nat → Value) (s q name : ByteArray) (raw uni : Bool) (b f i j B fu : Nat) (v15 : Value) (l : List UInt8) (x : LxS) (w w0 : World) (R0 : QRes) (Q0 : Exit → Act → World → Prop) (h : QHead s q raw uni b f i B x w0 R0 j v15 l fu w)
    (huni : uni = true) (hraw : raw = false) (hlt : i + j < s.size) (hne : startsB s (i + j) q = false) (h92 : bt s (i + j) = 92) (hd : bt s (i + j + 1) = 85) (hpan : (∃ n, R0 = .bad n) → ∀ a' w' ch, a'.defers = [] → Thrown B w0 (.panicked ch) w' → Q0 (.panic ch) a' w') :
    Code.wp Tryz.prog qBody (Exit.then (fun a' w' => QInv s q name raw uni b f i B x w0 R0 a' w' ∧ qMu s i a' < s.size - i - j) Q0) ⟨#[.pointer (some ⟨b, 0, none⟩), .string q, .bool raw, .bool uni, .string name, .bool false, g 6, g 7, g 8, g 9, g 10, g 11, g 12, g 13, .int .i64 (j : Int), v15, .bool false, g 17, g 18, g 19, g 20, g 21, g 22, g 23, g 24, g 25, g 26, g 27, g 28, g 29, g 30, g 31, g 32, g 33, g 34, g 35, g 36, g 37, g 38, g 39, g 40, g 41, g 42, g 43, g 44, g 45, g 46, g 47, g 48, g 49, g 50, g 51, g 52, g 53, g 54, g 55, g 56, g 57, g 58, g 59, g 60, g 61, g 62, g 63, g 64, g 65, g 66, g 67, g 68, g 69, g 70, g 71, g 72, g 73, g 74, g 75, g 76, g 77, g 78, g 79, g 80, g 81, g 82, g 83, g 84, g 85, g 86, g 87, g 88, g 89, g 90, g 91, g 92, g 93, g 94, g 95, g 96, g 97, g 98, g 99, g 100, g 101, g 102, g 103, g 104, g 105, g 106, g 107, g 108, g 109, g 110, g 111, g 112, g 113, g 114, g 115, g 116, g 117, g 118, g 119, g 120, g 121, g 122, g 123, g 124, g 125, g 126, g 127, g 128, g 129, g 130, g 131, g 132, g 133, g 134, g 135, g 136, g 137, g 138, g 139, g 140, g 141, g 142, g 143, g 144, g 145, g 146, g 147, g 148, g 149, g 150, g 151, g 152, g 153, g 154, g 155, g 156, g 157, g 158, g 159, g 160, g 161, g 162, g 163, g 164, g 165, g 166, g 167, g 168, g 169, g 170, g 171, g 172, g 173, g 174, g 175, g 176, g 177, g 178, g 179, g 180, g 181, g 182, g 183, g 184, g 185, g 186, g 187, g 188, g 189, g 190, g 191, g 192, g 193, g 194, g 195, g 196, g 197, g 198, g 199, g 200, g 201, g 202, g 203, g 204, g 205, g 206, g 207, g 208, g 209, g 210, g 211, g 212, g 213, g 214, g 215, g 216, g 217, g 218, g 219, g 220, g 221, g 222, g 223, g 224, g 225, g 226, g 227, g 228, g 229, g 230, g 231, g 232, g 233, g 234, g 235, g 236, g 237, g 238, g 239, g 240, g 241, g 242, g 243, g 244, g 245, g 246, g 247, g 248, g 249, g 250, g 251, g 252, g 253, g 254, g 255, g 256, g 257, g 258, g 259, g 260, g 261, g 262, g 263, g 264, g 265, g 266, g 267, g 268, g 269, g 270, g 271, g 272, g 273, g 274, g 275, g 276, g 277, g 278, g 279, g 280, g 281, g 282, g 283, g 284, g 285, g 286, g 287, g 288, g 289, g 290, g 291, g 292, g 293, g 294, g 295, g 296, g 297, g 298, g 299, g 300, g 301, g 302, g 303, g 304, g 305, g 306, g 307, g 308, g 309, g 310, g 311, g 312, g 313, g 314, g 315, g 316, g 317, g 318, g 319, g 320, g 321, g 322, g 323, g 324, g 325, g 326, g 327, g 328, g 329, g 330, g 331, g 332, g 333, g 334, g 335, g 336, g 337, g 338, g 339, g 340, g 341, g 342, g 343, g 344, g 345, g 346, g 347, g 348, g 349, g 350, g 351, g 352, g 353, g 354, g 355, g 356, g 357, g 358, g 359, g 360, g 361, g 362, g 363, g 364, g 365, g 366, g 367, g 368, g 369, g 370, g 371, g 372, g 373, g 374, g 375, g 376, g 377, g 378, g 379, g 380, g 381, g 382, g 383, g 384, g 385, g 386, g 387, g 388, g 389, g 390, g 391, g 392, g 393, g 394, g 395, g 396, g 397, g 398, g 399, g 400, g 401, g 402, g 403, g 404, g 405, g 406, g 407, g 408, g 409, g 410, g 411, g 412, g 413, g 414, g 415, g 416, g 417, g 418, g 419, g 420, g 421, g 422, g 423, g 424, g 425, g 426, g 427, g 428, g 429, g 430, g 431, g 432, g 433, g 434, g 435, g 436, g 437, g 438, g 439, g 440, g 441, g 442, g 443, g 444, g 445, g 446, g 447, g 448, g 449, g 450, g 451, g 452, g 453, g 454, g 455, g 456, g 457, g 458, g 459, g 460, g 461, g 462, g 463, g 464, g 465, g 466, g 467, g 468, g 469, g 470, g 471, g 472, g 473, g 474, g 475, g 476, g 477, g 478, g 479, g 480, g 481, g 482, g 483, g 484, g 485, g 486, g 487, g 488, g 489, g 490, g 491, g 492, g 493, g 494, g 495, g 496, g 497, g 498, g 499, g 500, g 501, g 502, g 503, g 504, g 505, g 506, g 507, g 508, g 509, g 510, g 511], []⟩ w := by
  conv => arg 2; whnf
  have hs := h.env.small
  have hj := h.le
  have hq3 : 1 ≤ q.size ∧ q.size ≤ 3 := by have := h.q13; omega
  obtain ⟨he10, hnl⟩ := h.esc _ hlt h92
  have hst := (starts_eq s q (i + j) hj).trans hne
  obtain ⟨i0, hi0, hz0, hz1, hz2⟩ := info_parts info_u8
  have hll := h.len
  subst hraw
  subst huni
  clear hnl
  have Hbad : Hid (escOf s (i + j) (!true) = none → ∃ n, R0 = .bad n) := by
    intro he
    rw [← h.res]
    obtain ⟨k, rfl⟩ : ∃ k, fu = k + 1 := ⟨fu - 1, by have := h.fuel; omega⟩
    exact ⟨_, quotFrom_escbad hlt hne (fun hn => by have hn1 := hn.1; unfold isNL at hn1; omega) h92 he⟩
  have Hgo : Hid (∀ p : List UInt8 × Nat, escOf s (i + j) (!true) = some p → quotFrom s q false (!true) (fu - 1) p.2 (l ++ p.1) = R0) := by
    intro p he
    rw [← h.res]
    obtain ⟨k, rfl⟩ : ∃ k, fu = k + 1 := ⟨fu - 1, by have := h.fuel; omega⟩
    exact (quotFrom_esc hlt hne (fun hn => by have hn1 := hn.1; unfold isNL at hn1; omega) h92 he).symm
  have Hesc : Hid (escOf s (i + j) (!true) = escHex s (i + j) 8) := escOf_digits he10 hd rfl (no_simple (by decide)) (by decide)
  go_wp2_with fail
  refine (h.peekOk _ h.low j _ rfl (by omega)).mono ?_
  rintro e w' ⟨rfl, n1, rfl⟩
  rw [decide_eq_true hlt]
  go_wp2_with fail
  refine (h.slice _ (h.low.trans (below_dn _ _ _)) j (j + q.size) _ _ rfl (by omega) (by omega) (by omega) (by omega)).mono ?_
  rintro e w' ⟨rfl, n2, rfl⟩
  rw [show i + (j + q.size) = i + j + q.size by omega]
  go_wp2_with fail
  refine (h.peek _ (h.low.trans (below_dn _ _ _)) j _ rfl hlt).mono ?_
  rintro e w' ⟨rfl, n3, rfl⟩
  rw [h92]
  clear h92
  go_wp2_with fail
  refine (h.peekOk _ (h.low.trans (below_dn _ _ _)) (j + 1) _ (by omega) (by omega)).mono ?_
  rintro e w' ⟨rfl, n4, rfl⟩
  rw [decide_eq_true (show i + (j + 1) < s.size by omega)]
  go_wp2_with fail
  refine (h.peek _ (h.low.trans (below_dn _ _ _)) (j + 1) _ (by omega) (by omega)).mono ?_
  rintro e w' ⟨rfl, n5, rfl⟩
  rw [show bt s (i + (j + 1)) = 85 from hd]
  clear hd
  have Hpan := Lib.hid hpan
  clear hpan
  go_wp2_with fail
  refine loopu_c s q name false true b f i j (j + 2) B fu 8 85 v15 l x w w0 R0 _ _ _ h (by omega) (by omega) ⟨rfl, rfl, rfl, rfl, rfl, rfl, rfl, rfl, rfl, rfl, rfl, rfl, rfl, 0, rfl, by omega, fun k hk => by omega, _, rfl⟩ ?_ ?_
  · intro hgood a' w' hI
    obtain ⟨v, hv, hv0, hvb⟩ := hexVal_good s 8 (i + (j + 2)) 0 0 hgood (by omega) hexBd_zero
    have hv1 : v ≤ 4294967295 := hexBd_le hvb (by decide)
    obtain ⟨t, ht⟩ : ∃ t, s.extract (i + (j + 2)) (i + (j + 2 + 8)) = t := ⟨_, rfl⟩
    have htz : t.size = 8 := by rw [← ht, ByteArray.size_extract]; omega
    have hvt : hexVal t t.size 0 0 = some v := by rw [htz, ← ht, hexVal_part s _ _ (by omega) 8 0 0 (by omega)]; exact hv
    have Hp := Lib.hid (fun W => parse_c t 16 32 v W (parse16_c t 32 v W (Or.inr ⟨rfl, hv1⟩) (by omega) (by omega) hvt))
    have Hres2 : Hid (¬ (1114111 < v ∨ (55296 ≤ v ∧ v < 57344)) → quotFrom s q false (!true) (fu - 1) (i + (j + 10)) (l ++ (Utf8.encode v).data.toList) = R0) := fun hb => Hgo.out ((Utf8.encode v).data.toList, i + (j + 10)) (by rw [Hesc.out, escHex_some (by omega) (show hexVal s 8 (i + j + 2) 0 = some v from hv) (hexPart_rune (by decide) hb), show i + j + 2 + 8 = i + (j + 10) by omega])
    have Hres3 : Hid ((1114111 < v ∨ (55296 ≤ v ∧ v < 57344)) → ∃ n, R0 = .bad n) := fun hb => Hbad.out (Hesc.out.trans (escHex_part (show hexVal s 8 (i + j + 2) 0 = some v from hv) (hexPart_bad (by decide) hb)))
    clear hgood hvb htz hvt hv
    obtain ⟨hlen, hdf, h0, h1, h2, h3, h4, h5, h14, h15, h16, h18, h22, m, hC, hm, hall, dr, rfl⟩ := hI
    obtain ⟨g2, rfl, hg⟩ := act_lit a' hlen hdf
    rw [hg] at h0 h1 h2 h3 h4 h5 h14 h15 h16 h18 h22 hC
    rw [h0, h1, h2, h3, h4, h5, h14, h15, h16, h18, show g2 22 = .int .i64 8 from h22]
    clear hlen hdf h0 h1 h2 h3 h4 h5 h14 h15 h16 h18 h22 hC hall hg
    go_wp2_with fail
    refine (h.slice _ (h.low.trans (below_dn _ _ _)) (j + 2) (j + 2 + 8) _ _ (by omega) (by omega) (by omega) (by omega) (by omega)).mono ?_
    rintro e w' ⟨rfl, n6, rfl⟩
    rw [ht]
    clear ht
    go_wp2_with fail
    refine (Hp.out _).mono ?_
    rintro e W2 ⟨rfl, hb2⟩
    have own2 := own_below (own_below h.own (below_dn _ w _)) hb2
    have low2 := (h.low.trans (below_dn _ w _)).trans (hb2.mono (h.low.trans (below_dn _ w _)).size)
    clear hb2
    have hcase : ((decide (55296 ≤ v) = false ∧ decide (1114111 < v) = false) ∨ (decide (55296 ≤ v) = true ∧ decide (v ≤ 57343) = false ∧ decide (1114111 < v) = false)) ∨ ((decide (55296 ≤ v) = true ∧ decide (v ≤ 57343) = true) ∨ (decide (55296 ≤ v) = true ∧ decide (v ≤ 57343) = false ∧ decide (1114111 < v) = true)) := by
      simp only [decide_eq_false_iff_not, decide_eq_true_eq]
      omega
    rcases hcase with hcase | hcase
    · have hbnd : v ≤ 1114111 ∧ (v < 55296 ∨ 57344 ≤ v) := by
        simp only [decide_eq_false_iff_not, decide_eq_true_eq] at hcase
        omega
      rcases hcase with ⟨hA, hC⟩ | ⟨hA, hB, hC⟩
      all_goals
        go_wp2_with fail
        refine (enc_c v hv0 (by omega) W2.heap.size 128 _ _ (four_row W2 _)).mono ?_
        rintro e W4 ⟨rfl, hcells, hb4⟩
        obtain ⟨hE1, hE4⟩ := enc_le v hv0
        have Hres := Hres2.out (by omega)
        obtain ⟨E, hE⟩ : ∃ E, (Utf8.encode v).data.toList = E := ⟨_, rfl⟩
        rw [hE] at hcells hE1 hE4 Hres ⊢
        have hx4 : RowKit.Below W2.heap.size W2 W4 := ((Below.refl _ _).alloc (Nat.le_refl _) _).trans hb4
        have own4 := own_below own2 hx4
        have hs4 := hx4.size
        have hs2 := low2.size
        have hs0 := (low2.trans (hx4.mono low2.size)).size
        clear hE hb4
        have hsl := slice_four W4 W2.heap.size E.length hE4
        go_wp2_with (at_builtin; refine wpList_append_own _ rfl _ _ 89 rfl w0.heap.size 5 i0 (.int .u8 0) 1 1 Tryz.underlying89 hi0 hz0 hz1 hz2 rfl (by decide) _ _ _ rfl own4 ⟨W2.heap.size, 0, none⟩ E.length 4 (Lib.byteCells E) rfl (by simp [Lib.byteCells]) hcells (Lib.byteCells_one _) (by unfold maxLen; omega) (by omega) (by omega) ?_; intro v' w1 hown' hgrow _)
        have R := quot_push (r := E) own4 low2 low2.size hx4 hown' hgrow rfl rfl
        obtain ⟨R1, R2⟩ := R
        clear hown' hgrow own4 own2 hcells hx4
        go_wp2_with fail
        refine ⟨⟨rfl, rfl, rfl, rfl, rfl, rfl, rfl, rfl, rfl, j + 10, l ++ E, fu - 1, rfl, ?_⟩, ?_⟩
        · exact { env := h.env, lx := h.lx, pos := h.pos, q13 := h.q13, le := by omega, own := R1, len := by simp; omega, low := R2, fuel := by have := h.fuel; omega, res := by exact Hres, ok := h.ok, esc := h.esc }
        · show s.size - i - ((j : Int) + 2 + 8).toNat < _
          omega
    · have hbnd : 1114111 < v ∨ (55296 ≤ v ∧ v < 57344) := by
        simp only [decide_eq_false_iff_not, decide_eq_true_eq] at hcase
        omega
      rcases hcase with ⟨hA, hB⟩ | ⟨hA, hB, hC⟩
      all_goals
        go_wp2_with fail
        refine wp_region_still_tail 16 (by kernel_rfl) (by kernel_rfl) ?_
        simp only [List.take_succ_cons, List.take_zero, List.drop_succ_cons, List.drop_zero]
        have hV := (low2).trans (drew_below w0.heap.size W2)
        generalize ({ heap := W2.heap, tape := W2.tape, drawn := W2.drawn + 1, os := W2.os, output := W2.output } : World) = V at hV ⊢
        have c9 := h.cell9w V hV
        repeat still_step
        refine wpStill_nil ?_
        go_wp2_with fail
        refine (h.panics V hV _ (i + j) (i + (j + 2 + 8)) _ _ (by omega) (by omega) (by omega) (by omega)).mono ?_
        rintro e w1 k
        obtain ⟨v, p, rfl, herr, hlow⟩ := k
        exact Hpan.out (Hres3.out (by omega)) _ _ _ rfl ⟨v, p, rfl, herr, hlow⟩
  · intro hbad a' w' ch hdf hth
    exact Hpan.out (Hbad.out (Hesc.out.trans (escHex_none (hexVal_bad s 8 (i + j + 2) 0 hbad)))) a' w' ch hdf hth
end Go.Proofs.YtmkkeacbabmaeaaGreatDoor
