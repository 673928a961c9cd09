/- A round of the loop over a literal: escapes of one letter. No condition. · A round of the loop over a literal: more escapes of one letter. No condition. · The loops over an escape's digits. No condition. · Loop x, round by round. No condition. · Loop u, round by round. No condition. · Loop o, round by round. No condition. · Octal and hexadecimal digits of a text, plain: when they are a number, of a part of the text. No condition. · What an escape stands for, by its letter and its digits, plain. No condition. -/
import Derived.Test.YtmkkeacbabmaeaaGreatDoorM05
import Derived.StillTailTactics
import Derived.Test.YtmkkeacbabmaeaaGreatDoorM02
import Derived.Test.YtmkkeacbabmaeaaGreatDoorM01
namespace Go.Proofs.YtmkkeacbabmaeaaGreatDoor
open Go.RowKit Go.PlainAid

set_option maxHeartbeats 8000000 in
set_option maxRecDepth 1000000 in
theorem q_esc97 (g : Nat → Value) (s q name : ByteArray) (raw uni : Bool) (b f i j B fu : Nat) (v15 : Value) (l : List UInt8) (x : LxS) (w w0 : World) (R0 : QRes) (Q0 : Exit → Act → World → Prop) (h : QHead s q raw uni b f i B x w0 R0 j v15 l fu w)
    (hraw : raw = false) (hlt : i + j < s.size) (hne : startsB s (i + j) q = false) (h92 : bt s (i + j) = 92) (hd : bt s (i + j + 1) = 97) :
    Code.wp Tryz.prog qBody (Exit.then (fun a' w' => QInv s q name raw uni b f i B x w0 R0 a' w' ∧ qMu s i a' < s.size - i - j) Q0) ⟨#[.pointer (some ⟨b, 0, none⟩), .string q, .bool raw, .bool uni, .string name, .bool false, g 6, g 7, g 8, g 9, g 10, g 11, g 12, g 13, .int .i64 (j : Int), v15, .bool false, g 17, g 18, g 19, g 20, g 21, g 22, g 23, g 24, g 25, g 26, g 27, g 28, g 29, g 30, g 31, g 32, g 33, g 34, g 35, g 36, g 37, g 38, g 39, g 40, g 41, g 42, g 43, g 44, g 45, g 46, g 47, g 48, g 49, g 50, g 51, g 52, g 53, g 54, g 55, g 56, g 57, g 58, g 59, g 60, g 61, g 62, g 63, g 64, g 65, g 66, g 67, g 68, g 69, g 70, g 71, g 72, g 73, g 74, g 75, g 76, g 77, g 78, g 79, g 80, g 81, g 82, g 83, g 84, g 85, g 86, g 87, g 88, g 89, g 90, g 91, g 92, g 93, g 94, g 95, g 96, g 97, g 98, g 99, g 100, g 101, g 102, g 103, g 104, g 105, g 106, g 107, g 108, g 109, g 110, g 111, g 112, g 113, g 114, g 115, g 116, g 117, g 118, g 119, g 120, g 121, g 122, g 123, g 124, g 125, g 126, g 127, g 128, g 129, g 130, g 131, g 132, g 133, g 134, g 135, g 136, g 137, g 138, g 139, g 140, g 141, g 142, g 143, g 144, g 145, g 146, g 147, g 148, g 149, g 150, g 151, g 152, g 153, g 154, g 155, g 156, g 157, g 158, g 159, g 160, g 161, g 162, g 163, g 164, g 165, g 166, g 167, g 168, g 169, g 170, g 171, g 172, g 173, g 174, g 175, g 176, g 177, g 178, g 179, g 180, g 181, g 182, g 183, g 184, g 185, g 186, g 187, g 188, g 189, g 190, g 191, g 192, g 193, g 194, g 195, g 196, g 197, g 198, g 199, g 200, g 201, g 202, g 203, g 204, g 205, g 206, g 207, g 208, g 209, g 210, g 211, g 212, g 213, g 214, g 215, g 216, g 217, g 218, g 219, g 220, g 221, g 222, g 223, g 224, g 225, g 226, g 227, g 228, g 229, g 230, g 231, g 232, g 233, g 234, g 235, g 236, g 237, g 238, g 239, g 240, g 241, g 242, g 243, g 244, g 245, g 246, g 247, g 248, g 249, g 250, g 251, g 252, g 253, g 254, g 255, g 256, g 257, g 258, g 259, g 260, g 261, g 262, g 263, g 264, g 265, g 266, g 267, g 268, g 269, g 270, g 271, g 272, g 273, g 274, g 275, g 276, g 277, g 278, g 279, g 280, g 281, g 282, g 283, g 284, g 285, g 286, g 287, g 288, g 289, g 290, g 291, g 292, g 293, g 294, g 295, g 296, g 297, g 298, g 299, g 300, g 301, g 302, g 303, g 304, g 305, g 306, g 307, g 308, g 309, g 310, g 311, g 312, g 313, g 314, g 315, g 316, g 317, g 318, g 319, g 320, g 321, g 322, g 323, g 324, g 325, g 326, g 327, g 328, g 329, g 330, g 331, g 332, g 333, g 334, g 335, g 336, g 337, g 338, g 339, g 340, g 341, g 342, g 343, g 344, g 345, g 346, g 347, g 348, g 349, g 350, g 351, g 352, g 353, g 354, g 355, g 356, g 357, g 358, g 359, g 360, g 361, g 362, g 363, g 364, g 365, g 366, g 367, g 368, g 369, g 370, g 371, g 372, g 373, g 374, g 375, g 376, g 377, g 378, g 379, g 380, g 381, g 382, g 383, g 384, g 385, g 386, g 387, g 388, g 389, g 390, g 391, g 392, g 393, g 394, g 395, g 396, g 397, g 398, g 399, g 400, g 401, g 402, g 403, g 404, g 405, g 406, g 407, g 408, g 409, g 410, g 411, g 412, g 413, g 414, g 415, g 416, g 417, g 418, g 419, g 420, g 421, g 422, g 423, g 424, g 425, g 426, g 427, g 428, g 429, g 430, g 431, g 432, g 433, g 434, g 435, g 436, g 437, g 438, g 439, g 440, g 441, g 442, g 443, g 444, g 445, g 446, g 447, g 448, g 449, g 450, g 451, g 452, g 453, g 454, g 455, g 456, g 457, g 458, g 459, g 460, g 461, g 462, g 463, g 464, g 465, g 466, g 467, g 468, g 469, g 470, g 471, g 472, g 473, g 474, g 475, g 476, g 477, g 478, g 479, g 480, g 481, g 482, g 483, g 484, g 485, g 486, g 487, g 488, g 489, g 490, g 491, g 492, g 493, g 494, g 495, g 496, g 497, g 498, g 499, g 500, g 501, g 502, g 503, g 504, g 505, g 506, g 507, g 508, g 509, g 510, g 511], []⟩ w := by
  conv => arg 2; whnf
  have hs := h.env.small
  have hj := h.le
  have hq3 : 1 ≤ q.size ∧ q.size ≤ 3 := by have := h.q13; omega
  obtain ⟨he10, hnl⟩ := h.esc _ hlt h92
  have hst := (starts_eq s q (i + j) hj).trans hne
  obtain ⟨i0, hi0, hz0, hz1, hz2⟩ := info_parts info_u8
  have hll := h.len
  subst hraw
  have Hres : Hid (quotFrom s q false (!uni) (fu - 1) (i + (j + 2)) (l ++ [asB 7]) = R0) := by
    show _ = _
    rw [← h.res]
    obtain ⟨k, rfl⟩ : ∃ k, fu = k + 1 := ⟨fu - 1, by have := h.fuel; omega⟩
    exact (quotFrom_esc hlt hne (fun hn => by have hn1 := hn.1; unfold isNL at hn1; omega) h92 (escOf_simple (by omega) (by rw [hd]; exact simple_97))).symm
  clear hnl
  go_wp2_with fail
  refine (h.peekOk _ h.low j _ rfl (by omega)).mono ?_
  rintro e w' ⟨rfl, n1, rfl⟩
  rw [decide_eq_true hlt]
  go_wp2_with fail
  refine (h.slice _ (h.low.trans (below_dn _ _ _)) j (j + q.size) _ _ rfl (by omega) (by omega) (by omega) (by omega)).mono ?_
  rintro e w' ⟨rfl, n2, rfl⟩
  rw [show i + (j + q.size) = i + j + q.size by omega]
  go_wp2_with fail
  refine (h.peek _ (h.low.trans (below_dn _ _ _)) j _ rfl hlt).mono ?_
  rintro e w' ⟨rfl, n3, rfl⟩
  rw [h92]
  clear h92
  go_wp2_with fail
  refine (h.peekOk _ (h.low.trans (below_dn _ _ _)) (j + 1) _ (by omega) (by omega)).mono ?_
  rintro e w' ⟨rfl, n4, rfl⟩
  rw [decide_eq_true (show i + (j + 1) < s.size by omega)]
  go_wp2_with fail
  refine (h.peek _ (h.low.trans (below_dn _ _ _)) (j + 1) _ (by omega) (by omega)).mono ?_
  rintro e w' ⟨rfl, n5, rfl⟩
  rw [show bt s (i + (j + 1)) = 97 from hd]
  clear hd
  go_wp2_with (at_builtin; refine wpList_append_own _ rfl _ _ 89 rfl w0.heap.size 5 i0 (.int .u8 0) 1 1 Tryz.underlying89 hi0 hz0 hz1 hz2 rfl (by decide) _ _ _ rfl ((own_below h.own (below_dn _ w _)).alloc _) ⟨w.heap.size, 0, none⟩ 1 1 [.int .u8 7] rfl rfl (cells_new _ #[.int .u8 7] 5) (by intro u hu; simp at hu; subst hu; rfl) (by unfold maxLen; omega) (by omega) (by have := (h.low).size; simp; omega) ?_; intro v' w1 hown' hgrow _)
  have R := quot_push (r := [asB 7]) ((own_below h.own (below_dn _ w _)).alloc _) (h.low.trans (below_dn _ _ _)) (h.low.trans (below_dn _ _ _)).size ((Below.refl _ _).alloc (Nat.le_refl _) _) hown' hgrow rfl (by rfl)
  obtain ⟨R1, R2⟩ := R
  clear hown' hgrow
  go_wp2_with fail
  refine ⟨⟨rfl, rfl, rfl, rfl, rfl, rfl, rfl, rfl, rfl, j + 2, l ++ [asB 7], fu - 1, rfl, ?_⟩, ?_⟩
  · exact { env := h.env, lx := h.lx, pos := h.pos, q13 := h.q13, le := by omega, own := R1, len := by simp; omega, low := R2, fuel := by have := h.fuel; omega, res := by exact Hres.out, ok := h.ok, esc := h.esc }
  · show s.size - i - ((j : Int) + 2).toNat < _
    omega
set_option maxHeartbeats 8000000 in
set_option maxRecDepth 1000000 in
theorem q_esc98 (g : Nat → Value) (s q name : ByteArray) (raw uni : Bool) (b f i j B fu : Nat) (v15 : Value) (l : List UInt8) (x : LxS) (w w0 : World) (R0 : QRes) (Q0 : Exit → Act → World → Prop) (h : QHead s q raw uni b f i B x w0 R0 j v15 l fu w)
    (hraw : raw = false) (hlt : i + j < s.size) (hne : startsB s (i + j) q = false) (h92 : bt s (i + j) = 92) (hd : bt s (i + j + 1) = 98) :
    Code.wp Tryz.prog qBody (Exit.then (fun a' w' => QInv s q name raw uni b f i B x w0 R0 a' w' ∧ qMu s i a' < s.size - i - j) Q0) ⟨#[.pointer (some ⟨b, 0, none⟩), .string q, .bool raw, .bool uni, .string name, .bool false, g 6, g 7, g 8, g 9, g 10, g 11, g 12, g 13, .int .i64 (j : Int), v15, .bool false, g 17, g 18, g 19, g 20, g 21, g 22, g 23, g 24, g 25, g 26, g 27, g 28, g 29, g 30, g 31, g 32, g 33, g 34, g 35, g 36, g 37, g 38, g 39, g 40, g 41, g 42, g 43, g 44, g 45, g 46, g 47, g 48, g 49, g 50, g 51, g 52, g 53, g 54, g 55, g 56, g 57, g 58, g 59, g 60, g 61, g 62, g 63, g 64, g 65, g 66, g 67, g 68, g 69, g 70, g 71, g 72, g 73, g 74, g 75, g 76, g 77, g 78, g 79, g 80, g 81, g 82, g 83, g 84, g 85, g 86, g 87, g 88, g 89, g 90, g 91, g 92, g 93, g 94, g 95, g 96, g 97, g 98, g 99, g 100, g 101, g 102, g 103, g 104, g 105, g 106, g 107, g 108, g 109, g 110, g 111, g 112, g 113, g 114, g 115, g 116, g 117, g 118, g 119, g 120, g 121, g 122, g 123, g 124, g 125, g 126, g 127, g 128, g 129, g 130, g 131, g 132, g 133, g 134, g 135, g 136, g 137, g 138, g 139, g 140, g 141, g 142, g 143, g 144, g 145, g 146, g 147, g 148, g 149, g 150, g 151, g 152, g 153, g 154, g 155, g 156, g 157, g 158, g 159, g 160, g 161, g 162, g 163, g 164, g 165, g 166, g 167, g 168, g 169, g 170, g 171, g 172, g 173, g 174, g 175, g 176, g 177, g 178, g 179, g 180, g 181, g 182, g 183, g 184, g 185, g 186, g 187, g 188, g 189, g 190, g 191, g 192, g 193, g 194, g 195, g 196, g 197, g 198, g 199, g 200, g 201, g 202, g 203, g 204, g 205, g 206, g 207, g 208, g 209, g 210, g 211, g 212, g 213, g 214, g 215, g 216, g 217, g 218, g 219, g 220, g 221, g 222, g 223, g 224, g 225, g 226, g 227, g 228, g 229, g 230, g 231, g 232, g 233, g 234, g 235, g 236, g 237, g 238, g 239, g 240, g 241, g 242, g 243, g 244, g 245, g 246, g 247, g 248, g 249, g 250, g 251, g 252, g 253, g 254, g 255, g 256, g 257, g 258, g 259, g 260, g 261, g 262, g 263, g 264, g 265, g 266, g 267, g 268, g 269, g 270, g 271, g 272, g 273, g 274, g 275, g 276, g 277, g 278, g 279, g 280, g 281, g 282, g 283, g 284, g 285, g 286, g 287, g 288, g 289, g 290, g 291, g 292, g 293, g 294, g 295, g 296, g 297, g 298, g 299, g 300, g 301, g 302, g 303, g 304, g 305, g 306, g 307, g 308, g 309, g 310, g 311, g 312, g 313, g 314, g 315, g 316, g 317, g 318, g 319, g 320, g 321, g 322, g 323, g 324, g 325, g 326, g 327, g 328, g 329, g 330, g 331, g 332, g 333, g 334, g 335, g 336, g 337, g 338, g 339, g 340, g 341, g 342, g 343, g 344, g 345, g 346, g 347, g 348, g 349, g 350, g 351, g 352, g 353, g 354, g 355, g 356, g 357, g 358, g 359, g 360, g 361, g 362, g 363, g 364, g 365, g 366, g 367, g 368, g 369, g 370, g 371, g 372, g 373, g 374, g 375, g 376, g 377, g 378, g 379, g 380, g 381, g 382, g 383, g 384, g 385, g 386, g 387, g 388, g 389, g 390, g 391, g 392, g 393, g 394, g 395, g 396, g 397, g 398, g 399, g 400, g 401, g 402, g 403, g 404, g 405, g 406, g 407, g 408, g 409, g 410, g 411, g 412, g 413, g 414, g 415, g 416, g 417, g 418, g 419, g 420, g 421, g 422, g 423, g 424, g 425, g 426, g 427, g 428, g 429, g 430, g 431, g 432, g 433, g 434, g 435, g 436, g 437, g 438, g 439, g 440, g 441, g 442, g 443, g 444, g 445, g 446, g 447, g 448, g 449, g 450, g 451, g 452, g 453, g 454, g 455, g 456, g 457, g 458, g 459, g 460, g 461, g 462, g 463, g 464, g 465, g 466, g 467, g 468, g 469, g 470, g 471, g 472, g 473, g 474, g 475, g 476, g 477, g 478, g 479, g 480, g 481, g 482, g 483, g 484, g 485, g 486, g 487, g 488, g 489, g 490, g 491, g 492, g 493, g 494, g 495, g 496, g 497, g 498, g 499, g 500, g 501, g 502, g 503, g 504, g 505, g 506, g 507, g 508, g 509, g 510, g 511], []⟩ w := by
  conv => arg 2; whnf
  have hs := h.env.small
  have hj := h.le
  have hq3 : 1 ≤ q.size ∧ q.size ≤ 3 := by have := h.q13; omega
  obtain ⟨he10, hnl⟩ := h.esc _ hlt h92
  have hst := (starts_eq s q (i + j) hj).trans hne
  obtain ⟨i0, hi0, hz0, hz1, hz2⟩ := info_parts info_u8
  have hll := h.len
  subst hraw
  have Hres : Hid (quotFrom s q false (!uni) (fu - 1) (i + (j + 2)) (l ++ [asB 8]) = R0) := by
    show _ = _
    rw [← h.res]
    obtain ⟨k, rfl⟩ : ∃ k, fu = k + 1 := ⟨fu - 1, by have := h.fuel; omega⟩
    exact (quotFrom_esc hlt hne (fun hn => by have hn1 := hn.1; unfold isNL at hn1; omega) h92 (escOf_simple (by omega) (by rw [hd]; exact simple_98))).symm
  clear hnl
  go_wp2_with fail
  refine (h.peekOk _ h.low j _ rfl (by omega)).mono ?_
  rintro e w' ⟨rfl, n1, rfl⟩
  rw [decide_eq_true hlt]
  go_wp2_with fail
  refine (h.slice _ (h.low.trans (below_dn _ _ _)) j (j + q.size) _ _ rfl (by omega) (by omega) (by omega) (by omega)).mono ?_
  rintro e w' ⟨rfl, n2, rfl⟩
  rw [show i + (j + q.size) = i + j + q.size by omega]
  go_wp2_with fail
  refine (h.peek _ (h.low.trans (below_dn _ _ _)) j _ rfl hlt).mono ?_
  rintro e w' ⟨rfl, n3, rfl⟩
  rw [h92]
  clear h92
  go_wp2_with fail
  refine (h.peekOk _ (h.low.trans (below_dn _ _ _)) (j + 1) _ (by omega) (by omega)).mono ?_
  rintro e w' ⟨rfl, n4, rfl⟩
  rw [decide_eq_true (show i + (j + 1) < s.size by omega)]
  go_wp2_with fail
  refine (h.peek _ (h.low.trans (below_dn _ _ _)) (j + 1) _ (by omega) (by omega)).mono ?_
  rintro e w' ⟨rfl, n5, rfl⟩
  rw [show bt s (i + (j + 1)) = 98 from hd]
  clear hd
  go_wp2_with (at_builtin; refine wpList_append_own _ rfl _ _ 89 rfl w0.heap.size 5 i0 (.int .u8 0) 1 1 Tryz.underlying89 hi0 hz0 hz1 hz2 rfl (by decide) _ _ _ rfl ((own_below h.own (below_dn _ w _)).alloc _) ⟨w.heap.size, 0, none⟩ 1 1 [.int .u8 8] rfl rfl (cells_new _ #[.int .u8 8] 5) (by intro u hu; simp at hu; subst hu; rfl) (by unfold maxLen; omega) (by omega) (by have := (h.low).size; simp; omega) ?_; intro v' w1 hown' hgrow _)
  have R := quot_push (r := [asB 8]) ((own_below h.own (below_dn _ w _)).alloc _) (h.low.trans (below_dn _ _ _)) (h.low.trans (below_dn _ _ _)).size ((Below.refl _ _).alloc (Nat.le_refl _) _) hown' hgrow rfl (by rfl)
  obtain ⟨R1, R2⟩ := R
  clear hown' hgrow
  go_wp2_with fail
  refine ⟨⟨rfl, rfl, rfl, rfl, rfl, rfl, rfl, rfl, rfl, j + 2, l ++ [asB 8], fu - 1, rfl, ?_⟩, ?_⟩
  · exact { env := h.env, lx := h.lx, pos := h.pos, q13 := h.q13, le := by omega, own := R1, len := by simp; omega, low := R2, fuel := by have := h.fuel; omega, res := by exact Hres.out, ok := h.ok, esc := h.esc }
  · show s.size - i - ((j : Int) + 2).toNat < _
    omega
set_option maxHeartbeats 8000000 in
set_option maxRecDepth 1000000 in
theorem q_esc102 (g : Nat → Value) (s q name : ByteArray) (raw uni : Bool) (b f i j B fu : Nat) (v15 : Value) (l : List UInt8) (x : LxS) (w w0 : World) (R0 : QRes) (Q0 : Exit → Act → World → Prop) (h : QHead s q raw uni b f i B x w0 R0 j v15 l fu w)
    (hraw : raw = false) (hlt : i + j < s.size) (hne : startsB s (i + j) q = false) (h92 : bt s (i + j) = 92) (hd : bt s (i + j + 1) = 102) :
    Code.wp Tryz.prog qBody (Exit.then (fun a' w' => QInv s q name raw uni b f i B x w0 R0 a' w' ∧ qMu s i a' < s.size - i - j) Q0) ⟨#[.pointer (some ⟨b, 0, none⟩), .string q, .bool raw, .bool uni, .string name, .bool false, g 6, g 7, g 8, g 9, g 10, g 11, g 12, g 13, .int .i64 (j : Int), v15, .bool false, g 17, g 18, g 19, g 20, g 21, g 22, g 23, g 24, g 25, g 26, g 27, g 28, g 29, g 30, g 31, g 32, g 33, g 34, g 35, g 36, g 37, g 38, g 39, g 40, g 41, g 42, g 43, g 44, g 45, g 46, g 47, g 48, g 49, g 50, g 51, g 52, g 53, g 54, g 55, g 56, g 57, g 58, g 59, g 60, g 61, g 62, g 63, g 64, g 65, g 66, g 67, g 68, g 69, g 70, g 71, g 72, g 73, g 74, g 75, g 76, g 77, g 78, g 79, g 80, g 81, g 82, g 83, g 84, g 85, g 86, g 87, g 88, g 89, g 90, g 91, g 92, g 93, g 94, g 95, g 96, g 97, g 98, g 99, g 100, g 101, g 102, g 103, g 104, g 105, g 106, g 107, g 108, g 109, g 110, g 111, g 112, g 113, g 114, g 115, g 116, g 117, g 118, g 119, g 120, g 121, g 122, g 123, g 124, g 125, g 126, g 127, g 128, g 129, g 130, g 131, g 132, g 133, g 134, g 135, g 136, g 137, g 138, g 139, g 140, g 141, g 142, g 143, g 144, g 145, g 146, g 147, g 148, g 149, g 150, g 151, g 152, g 153, g 154, g 155, g 156, g 157, g 158, g 159, g 160, g 161, g 162, g 163, g 164, g 165, g 166, g 167, g 168, g 169, g 170, g 171, g 172, g 173, g 174, g 175, g 176, g 177, g 178, g 179, g 180, g 181, g 182, g 183, g 184, g 185, g 186, g 187, g 188, g 189, g 190, g 191, g 192, g 193, g 194, g 195, g 196, g 197, g 198, g 199, g 200, g 201, g 202, g 203, g 204, g 205, g 206, g 207, g 208, g 209, g 210, g 211, g 212, g 213, g 214, g 215, g 216, g 217, g 218, g 219, g 220, g 221, g 222, g 223, g 224, g 225, g 226, g 227, g 228, g 229, g 230, g 231, g 232, g 233, g 234, g 235, g 236, g 237, g 238, g 239, g 240, g 241, g 242, g 243, g 244, g 245, g 246, g 247, g 248, g 249, g 250, g 251, g 252, g 253, g 254, g 255, g 256, g 257, g 258, g 259, g 260, g 261, g 262, g 263, g 264, g 265, g 266, g 267, g 268, g 269, g 270, g 271, g 272, g 273, g 274, g 275, g 276, g 277, g 278, g 279, g 280, g 281, g 282, g 283, g 284, g 285, g 286, g 287, g 288, g 289, g 290, g 291, g 292, g 293, g 294, g 295, g 296, g 297, g 298, g 299, g 300, g 301, g 302, g 303, g 304, g 305, g 306, g 307, g 308, g 309, g 310, g 311, g 312, g 313, g 314, g 315, g 316, g 317, g 318, g 319, g 320, g 321, g 322, g 323, g 324, g 325, g 326, g 327, g 328, g 329, g 330, g 331, g 332, g 333, g 334, g 335, g 336, g 337, g 338, g 339, g 340, g 341, g 342, g 343, g 344, g 345, g 346, g 347, g 348, g 349, g 350, g 351, g 352, g 353, g 354, g 355, g 356, g 357, g 358, g 359, g 360, g 361, g 362, g 363, g 364, g 365, g 366, g 367, g 368, g 369, g 370, g 371, g 372, g 373, g 374, g 375, g 376, g 377, g 378, g 379, g 380, g 381, g 382, g 383, g 384, g 385, g 386, g 387, g 388, g 389, g 390, g 391, g 392, g 393, g 394, g 395, g 396, g 397, g 398, g 399, g 400, g 401, g 402, g 403, g 404, g 405, g 406, g 407, g 408, g 409, g 410, g 411, g 412, g 413, g 414, g 415, g 416, g 417, g 418, g 419, g 420, g 421, g 422, g 423, g 424, g 425, g 426, g 427, g 428, g 429, g 430, g 431, g 432, g 433, g 434, g 435, g 436, g 437, g 438, g 439, g 440, g 441, g 442, g 443, g 444, g 445, g 446, g 447, g 448, g 449, g 450, g 451, g 452, g 453, g 454, g 455, g 456, g 457, g 458, g 459, g 460, g 461, g 462, g 463, g 464, g 465, g 466, g 467, g 468, g 469, g 470, g 471, g 472, g 473, g 474, g 475, g 476, g 477, g 478, g 479, g 480, g 481, g 482, g 483, g 484, g 485, g 486, g 487, g 488, g 489, g 490, g 491, g 492, g 493, g 494, g 495, g 496, g 497, g 498, g 499, g 500, g 501, g 502, g 503, g 504, g 505, g 506, g 507, g 508, g 509, g 510, g 511], []⟩ w := by
  conv => arg 2; whnf
  have hs := h.env.small
  have hj := h.le
  have hq3 : 1 ≤ q.size ∧ q.size ≤ 3 := by have := h.q13; omega
  obtain ⟨he10, hnl⟩ := h.esc _ hlt h92
  have hst := (starts_eq s q (i + j) hj).trans hne
  obtain ⟨i0, hi0, hz0, hz1, hz2⟩ := info_parts info_u8
  have hll := h.len
  subst hraw
  have Hres : Hid (quotFrom s q false (!uni) (fu - 1) (i + (j + 2)) (l ++ [asB 12]) = R0) := by
    show _ = _
    rw [← h.res]
    obtain ⟨k, rfl⟩ : ∃ k, fu = k + 1 := ⟨fu - 1, by have := h.fuel; omega⟩
    exact (quotFrom_esc hlt hne (fun hn => by have hn1 := hn.1; unfold isNL at hn1; omega) h92 (escOf_simple (by omega) (by rw [hd]; exact simple_102))).symm
  clear hnl
  go_wp2_with fail
  refine (h.peekOk _ h.low j _ rfl (by omega)).mono ?_
  rintro e w' ⟨rfl, n1, rfl⟩
  rw [decide_eq_true hlt]
  go_wp2_with fail
  refine (h.slice _ (h.low.trans (below_dn _ _ _)) j (j + q.size) _ _ rfl (by omega) (by omega) (by omega) (by omega)).mono ?_
  rintro e w' ⟨rfl, n2, rfl⟩
  rw [show i + (j + q.size) = i + j + q.size by omega]
  go_wp2_with fail
  refine (h.peek _ (h.low.trans (below_dn _ _ _)) j _ rfl hlt).mono ?_
  rintro e w' ⟨rfl, n3, rfl⟩
  rw [h92]
  clear h92
  go_wp2_with fail
  refine (h.peekOk _ (h.low.trans (below_dn _ _ _)) (j + 1) _ (by omega) (by omega)).mono ?_
  rintro e w' ⟨rfl, n4, rfl⟩
  rw [decide_eq_true (show i + (j + 1) < s.size by omega)]
  go_wp2_with fail
  refine (h.peek _ (h.low.trans (below_dn _ _ _)) (j + 1) _ (by omega) (by omega)).mono ?_
  rintro e w' ⟨rfl, n5, rfl⟩
  rw [show bt s (i + (j + 1)) = 102 from hd]
  clear hd
  go_wp2_with (at_builtin; refine wpList_append_own _ rfl _ _ 89 rfl w0.heap.size 5 i0 (.int .u8 0) 1 1 Tryz.underlying89 hi0 hz0 hz1 hz2 rfl (by decide) _ _ _ rfl ((own_below h.own (below_dn _ w _)).alloc _) ⟨w.heap.size, 0, none⟩ 1 1 [.int .u8 12] rfl rfl (cells_new _ #[.int .u8 12] 5) (by intro u hu; simp at hu; subst hu; rfl) (by unfold maxLen; omega) (by omega) (by have := (h.low).size; simp; omega) ?_; intro v' w1 hown' hgrow _)
  have R := quot_push (r := [asB 12]) ((own_below h.own (below_dn _ w _)).alloc _) (h.low.trans (below_dn _ _ _)) (h.low.trans (below_dn _ _ _)).size ((Below.refl _ _).alloc (Nat.le_refl _) _) hown' hgrow rfl (by rfl)
  obtain ⟨R1, R2⟩ := R
  clear hown' hgrow
  go_wp2_with fail
  refine ⟨⟨rfl, rfl, rfl, rfl, rfl, rfl, rfl, rfl, rfl, j + 2, l ++ [asB 12], fu - 1, rfl, ?_⟩, ?_⟩
  · exact { env := h.env, lx := h.lx, pos := h.pos, q13 := h.q13, le := by omega, own := R1, len := by simp; omega, low := R2, fuel := by have := h.fuel; omega, res := by exact Hres.out, ok := h.ok, esc := h.esc }
  · show s.size - i - ((j : Int) + 2).toNat < _
    omega
set_option maxHeartbeats 8000000 in
set_option maxRecDepth 1000000 in
theorem q_esc110 (g : Nat → Value) (s q name : ByteArray) (raw uni : Bool) (b f i j B fu : Nat) (v15 : Value) (l : List UInt8) (x : LxS) (w w0 : World) (R0 : QRes) (Q0 : Exit → Act → World → Prop) (h : QHead s q raw uni b f i B x w0 R0 j v15 l fu w)
    (hraw : raw = false) (hlt : i + j < s.size) (hne : startsB s (i + j) q = false) (h92 : bt s (i + j) = 92) (hd : bt s (i + j + 1) = 110) :
    Code.wp Tryz.prog qBody (Exit.then (fun a' w' => QInv s q name raw uni b f i B x w0 R0 a' w' ∧ qMu s i a' < s.size - i - j) Q0) ⟨#[.pointer (some ⟨b, 0, none⟩), .string q, .bool raw, .bool uni, .string name, .bool false, g 6, g 7, g 8, g 9, g 10, g 11, g 12, g 13, .int .i64 (j : Int), v15, .bool false, g 17, g 18, g 19, g 20, g 21, g 22, g 23, g 24, g 25, g 26, g 27, g 28, g 29, g 30, g 31, g 32, g 33, g 34, g 35, g 36, g 37, g 38, g 39, g 40, g 41, g 42, g 43, g 44, g 45, g 46, g 47, g 48, g 49, g 50, g 51, g 52, g 53, g 54, g 55, g 56, g 57, g 58, g 59, g 60, g 61, g 62, g 63, g 64, g 65, g 66, g 67, g 68, g 69, g 70, g 71, g 72, g 73, g 74, g 75, g 76, g 77, g 78, g 79, g 80, g 81, g 82, g 83, g 84, g 85, g 86, g 87, g 88, g 89, g 90, g 91, g 92, g 93, g 94, g 95, g 96, g 97, g 98, g 99, g 100, g 101, g 102, g 103, g 104, g 105, g 106, g 107, g 108, g 109, g 110, g 111, g 112, g 113, g 114, g 115, g 116, g 117, g 118, g 119, g 120, g 121, g 122, g 123, g 124, g 125, g 126, g 127, g 128, g 129, g 130, g 131, g 132, g 133, g 134, g 135, g 136, g 137, g 138, g 139, g 140, g 141, g 142, g 143, g 144, g 145, g 146, g 147, g 148, g 149, g 150, g 151, g 152, g 153, g 154, g 155, g 156, g 157, g 158, g 159, g 160, g 161, g 162, g 163, g 164, g 165, g 166, g 167, g 168, g 169, g 170, g 171, g 172, g 173, g 174, g 175, g 176, g 177, g 178, g 179, g 180, g 181, g 182, g 183, g 184, g 185, g 186, g 187, g 188, g 189, g 190, g 191, g 192, g 193, g 194, g 195, g 196, g 197, g 198, g 199, g 200, g 201, g 202, g 203, g 204, g 205, g 206, g 207, g 208, g 209, g 210, g 211, g 212, g 213, g 214, g 215, g 216, g 217, g 218, g 219, g 220, g 221, g 222, g 223, g 224, g 225, g 226, g 227, g 228, g 229, g 230, g 231, g 232, g 233, g 234, g 235, g 236, g 237, g 238, g 239, g 240, g 241, g 242, g 243, g 244, g 245, g 246, g 247, g 248, g 249, g 250, g 251, g 252, g 253, g 254, g 255, g 256, g 257, g 258, g 259, g 260, g 261, g 262, g 263, g 264, g 265, g 266, g 267, g 268, g 269, g 270, g 271, g 272, g 273, g 274, g 275, g 276, g 277, g 278, g 279, g 280, g 281, g 282, g 283, g 284, g 285, g 286, g 287, g 288, g 289, g 290, g 291, g 292, g 293, g 294, g 295, g 296, g 297, g 298, g 299, g 300, g 301, g 302, g 303, g 304, g 305, g 306, g 307, g 308, g 309, g 310, g 311, g 312, g 313, g 314, g 315, g 316, g 317, g 318, g 319, g 320, g 321, g 322, g 323, g 324, g 325, g 326, g 327, g 328, g 329, g 330, g 331, g 332, g 333, g 334, g 335, g 336, g 337, g 338, g 339, g 340, g 341, g 342, g 343, g 344, g 345, g 346, g 347, g 348, g 349, g 350, g 351, g 352, g 353, g 354, g 355, g 356, g 357, g 358, g 359, g 360, g 361, g 362, g 363, g 364, g 365, g 366, g 367, g 368, g 369, g 370, g 371, g 372, g 373, g 374, g 375, g 376, g 377, g 378, g 379, g 380, g 381, g 382, g 383, g 384, g 385, g 386, g 387, g 388, g 389, g 390, g 391, g 392, g 393, g 394, g 395, g 396, g 397, g 398, g 399, g 400, g 401, g 402, g 403, g 404, g 405, g 406, g 407, g 408, g 409, g 410, g 411, g 412, g 413, g 414, g 415, g 416, g 417, g 418, g 419, g 420, g 421, g 422, g 423, g 424, g 425, g 426, g 427, g 428, g 429, g 430, g 431, g 432, g 433, g 434, g 435, g 436, g 437, g 438, g 439, g 440, g 441, g 442, g 443, g 444, g 445, g 446, g 447, g 448, g 449, g 450, g 451, g 452, g 453, g 454, g 455, g 456, g 457, g 458, g 459, g 460, g 461, g 462, g 463, g 464, g 465, g 466, g 467, g 468, g 469, g 470, g 471, g 472, g 473, g 474, g 475, g 476, g 477, g 478, g 479, g 480, g 481, g 482, g 483, g 484, g 485, g 486, g 487, g 488, g 489, g 490, g 491, g 492, g 493, g 494, g 495, g 496, g 497, g 498, g 499, g 500, g 501, g 502, g 503, g 504, g 505, g 506, g 507, g 508, g 509, g 510, g 511], []⟩ w := by
  conv => arg 2; whnf
  have hs := h.env.small
  have hj := h.le
  have hq3 : 1 ≤ q.size ∧ q.size ≤ 3 := by have := h.q13; omega
  obtain ⟨he10, hnl⟩ := h.esc _ hlt h92
  have hst := (starts_eq s q (i + j) hj).trans hne
  obtain ⟨i0, hi0, hz0, hz1, hz2⟩ := info_parts info_u8
  have hll := h.len
  subst hraw
  have Hres : Hid (quotFrom s q false (!uni) (fu - 1) (i + (j + 2)) (l ++ [asB 10]) = R0) := by
    show _ = _
    rw [← h.res]
    obtain ⟨k, rfl⟩ : ∃ k, fu = k + 1 := ⟨fu - 1, by have := h.fuel; omega⟩
    exact (quotFrom_esc hlt hne (fun hn => by have hn1 := hn.1; unfold isNL at hn1; omega) h92 (escOf_simple (by omega) (by rw [hd]; exact simple_110))).symm
  clear hnl
  go_wp2_with fail
  refine (h.peekOk _ h.low j _ rfl (by omega)).mono ?_
  rintro e w' ⟨rfl, n1, rfl⟩
  rw [decide_eq_true hlt]
  go_wp2_with fail
  refine (h.slice _ (h.low.trans (below_dn _ _ _)) j (j + q.size) _ _ rfl (by omega) (by omega) (by omega) (by omega)).mono ?_
  rintro e w' ⟨rfl, n2, rfl⟩
  rw [show i + (j + q.size) = i + j + q.size by omega]
  go_wp2_with fail
  refine (h.peek _ (h.low.trans (below_dn _ _ _)) j _ rfl hlt).mono ?_
  rintro e w' ⟨rfl, n3, rfl⟩
  rw [h92]
  clear h92
  go_wp2_with fail
  refine (h.peekOk _ (h.low.trans (below_dn _ _ _)) (j + 1) _ (by omega) (by omega)).mono ?_
  rintro e w' ⟨rfl, n4, rfl⟩
  rw [decide_eq_true (show i + (j + 1) < s.size by omega)]
  go_wp2_with fail
  refine (h.peek _ (h.low.trans (below_dn _ _ _)) (j + 1) _ (by omega) (by omega)).mono ?_
  rintro e w' ⟨rfl, n5, rfl⟩
  rw [show bt s (i + (j + 1)) = 110 from hd]
  clear hd
  go_wp2_with (at_builtin; refine wpList_append_own _ rfl _ _ 89 rfl w0.heap.size 5 i0 (.int .u8 0) 1 1 Tryz.underlying89 hi0 hz0 hz1 hz2 rfl (by decide) _ _ _ rfl ((own_below h.own (below_dn _ w _)).alloc _) ⟨w.heap.size, 0, none⟩ 1 1 [.int .u8 10] rfl rfl (cells_new _ #[.int .u8 10] 5) (by intro u hu; simp at hu; subst hu; rfl) (by unfold maxLen; omega) (by omega) (by have := (h.low).size; simp; omega) ?_; intro v' w1 hown' hgrow _)
  have R := quot_push (r := [asB 10]) ((own_below h.own (below_dn _ w _)).alloc _) (h.low.trans (below_dn _ _ _)) (h.low.trans (below_dn _ _ _)).size ((Below.refl _ _).alloc (Nat.le_refl _) _) hown' hgrow rfl (by rfl)
  obtain ⟨R1, R2⟩ := R
  clear hown' hgrow
  go_wp2_with fail
  refine ⟨⟨rfl, rfl, rfl, rfl, rfl, rfl, rfl, rfl, rfl, j + 2, l ++ [asB 10], fu - 1, rfl, ?_⟩, ?_⟩
  · exact { env := h.env, lx := h.lx, pos := h.pos, q13 := h.q13, le := by omega, own := R1, len := by simp; omega, low := R2, fuel := by have := h.fuel; omega, res := by exact Hres.out, ok := h.ok, esc := h.esc }
  · show s.size - i - ((j : Int) + 2).toNat < _
    omega
set_option maxHeartbeats 8000000 in
set_option maxRecDepth 1000000 in
theorem q_esc114 (g : Nat → Value) (s q name : ByteArray) (raw uni : Bool) (b f i j B fu : Nat) (v15 : Value) (l : List UInt8) (x : LxS) (w w0 : World) (R0 : QRes) (Q0 : Exit → Act → World → Prop) (h : QHead s q raw uni b f i B x w0 R0 j v15 l fu w)
    (hraw : raw = false) (hlt : i + j < s.size) (hne : startsB s (i + j) q = false) (h92 : bt s (i + j) = 92) (hd : bt s (i + j + 1) = 114) :
    Code.wp Tryz.prog qBody (Exit.then (fun a' w' => QInv s q name raw uni b f i B x w0 R0 a' w' ∧ qMu s i a' < s.size - i - j) Q0) ⟨#[.pointer (some ⟨b, 0, none⟩), .string q, .bool raw, .bool uni, .string name, .bool false, g 6, g 7, g 8, g 9, g 10, g 11, g 12, g 13, .int .i64 (j : Int), v15, .bool false, g 17, g 18, g 19, g 20, g 21, g 22, g 23, g 24, g 25, g 26, g 27, g 28, g 29, g 30, g 31, g 32, g 33, g 34, g 35, g 36, g 37, g 38, g 39, g 40, g 41, g 42, g 43, g 44, g 45, g 46, g 47, g 48, g 49, g 50, g 51, g 52, g 53, g 54, g 55, g 56, g 57, g 58, g 59, g 60, g 61, g 62, g 63, g 64, g 65, g 66, g 67, g 68, g 69, g 70, g 71, g 72, g 73, g 74, g 75, g 76, g 77, g 78, g 79, g 80, g 81, g 82, g 83, g 84, g 85, g 86, g 87, g 88, g 89, g 90, g 91, g 92, g 93, g 94, g 95, g 96, g 97, g 98, g 99, g 100, g 101, g 102, g 103, g 104, g 105, g 106, g 107, g 108, g 109, g 110, g 111, g 112, g 113, g 114, g 115, g 116, g 117, g 118, g 119, g 120, g 121, g 122, g 123, g 124, g 125, g 126, g 127, g 128, g 129, g 130, g 131, g 132, g 133, g 134, g 135, g 136, g 137, g 138, g 139, g 140, g 141, g 142, g 143, g 144, g 145, g 146, g 147, g 148, g 149, g 150, g 151, g 152, g 153, g 154, g 155, g 156, g 157, g 158, g 159, g 160, g 161, g 162, g 163, g 164, g 165, g 166, g 167, g 168, g 169, g 170, g 171, g 172, g 173, g 174, g 175, g 176, g 177, g 178, g 179, g 180, g 181, g 182, g 183, g 184, g 185, g 186, g 187, g 188, g 189, g 190, g 191, g 192, g 193, g 194, g 195, g 196, g 197, g 198, g 199, g 200, g 201, g 202, g 203, g 204, g 205, g 206, g 207, g 208, g 209, g 210, g 211, g 212, g 213, g 214, g 215, g 216, g 217, g 218, g 219, g 220, g 221, g 222, g 223, g 224, g 225, g 226, g 227, g 228, g 229, g 230, g 231, g 232, g 233, g 234, g 235, g 236, g 237, g 238, g 239, g 240, g 241, g 242, g 243, g 244, g 245, g 246, g 247, g 248, g 249, g 250, g 251, g 252, g 253, g 254, g 255, g 256, g 257, g 258, g 259, g 260, g 261, g 262, g 263, g 264, g 265, g 266, g 267, g 268, g 269, g 270, g 271, g 272, g 273, g 274, g 275, g 276, g 277, g 278, g 279, g 280, g 281, g 282, g 283, g 284, g 285, g 286, g 287, g 288, g 289, g 290, g 291, g 292, g 293, g 294, g 295, g 296, g 297, g 298, g 299, g 300, g 301, g 302, g 303, g 304, g 305, g 306, g 307, g 308, g 309, g 310, g 311, g 312, g 313, g 314, g 315, g 316, g 317, g 318, g 319, g 320, g 321, g 322, g 323, g 324, g 325, g 326, g 327, g 328, g 329, g 330, g 331, g 332, g 333, g 334, g 335, g 336, g 337, g 338, g 339, g 340, g 341, g 342, g 343, g 344, g 345, g 346, g 347, g 348, g 349, g 350, g 351, g 352, g 353, g 354, g 355, g 356, g 357, g 358, g 359, g 360, g 361, g 362, g 363, g 364, g 365, g 366, g 367, g 368, g 369, g 370, g 371, g 372, g 373, g 374, g 375, g 376, g 377, g 378, g 379, g 380, g 381, g 382, g 383, g 384, g 385, g 386, g 387, g 388, g 389, g 390, g 391, g 392, g 393, g 394, g 395, g 396, g 397, g 398, g 399, g 400, g 401, g 402, g 403, g 404, g 405, g 406, g 407, g 408, g 409, g 410, g 411, g 412, g 413, g 414, g 415, g 416, g 417, g 418, g 419, g 420, g 421, g 422, g 423, g 424, g 425, g 426, g 427, g 428, g 429, g 430, g 431, g 432, g 433, g 434, g 435, g 436, g 437, g 438, g 439, g 440, g 441, g 442, g 443, g 444, g 445, g 446, g 447, g 448, g 449, g 450, g 451, g 452, g 453, g 454, g 455, g 456, g 457, g 458, g 459, g 460, g 461, g 462, g 463, g 464, g 465, g 466, g 467, g 468, g 469, g 470, g 471, g 472, g 473, g 474, g 475, g 476, g 477, g 478, g 479, g 480, g 481, g 482, g 483, g 484, g 485, g 486, g 487, g 488, g 489, g 490, g 491, g 492, g 493, g 494, g 495, g 496, g 497, g 498, g 499, g 500, g 501, g 502, g 503, g 504, g 505, g 506, g 507, g 508, g 509, g 510, g 511], []⟩ w := by
  conv => arg 2; whnf
  have hs := h.env.small
  have hj := h.le
  have hq3 : 1 ≤ q.size ∧ q.size ≤ 3 := by have := h.q13; omega
  obtain ⟨he10, hnl⟩ := h.esc _ hlt h92
  have hst := (starts_eq s q (i + j) hj).trans hne
  obtain ⟨i0, hi0, hz0, hz1, hz2⟩ := info_parts info_u8
  have hll := h.len
  subst hraw
  have Hres : Hid (quotFrom s q false (!uni) (fu - 1) (i + (j + 2)) (l ++ [asB 13]) = R0) := by
    show _ = _
    rw [← h.res]
    obtain ⟨k, rfl⟩ : ∃ k, fu = k + 1 := ⟨fu - 1, by have := h.fuel; omega⟩
    exact (quotFrom_esc hlt hne (fun hn => by have hn1 := hn.1; unfold isNL at hn1; omega) h92 (escOf_simple (by omega) (by rw [hd]; exact simple_114))).symm
  clear hnl
  go_wp2_with fail
  refine (h.peekOk _ h.low j _ rfl (by omega)).mono ?_
  rintro e w' ⟨rfl, n1, rfl⟩
  rw [decide_eq_true hlt]
  go_wp2_with fail
  refine (h.slice _ (h.low.trans (below_dn _ _ _)) j (j + q.size) _ _ rfl (by omega) (by omega) (by omega) (by omega)).mono ?_
  rintro e w' ⟨rfl, n2, rfl⟩
  rw [show i + (j + q.size) = i + j + q.size by omega]
  go_wp2_with fail
  refine (h.peek _ (h.low.trans (below_dn _ _ _)) j _ rfl hlt).mono ?_
  rintro e w' ⟨rfl, n3, rfl⟩
  rw [h92]
  clear h92
  go_wp2_with fail
  refine (h.peekOk _ (h.low.trans (below_dn _ _ _)) (j + 1) _ (by omega) (by omega)).mono ?_
  rintro e w' ⟨rfl, n4, rfl⟩
  rw [decide_eq_true (show i + (j + 1) < s.size by omega)]
  go_wp2_with fail
  refine (h.peek _ (h.low.trans (below_dn _ _ _)) (j + 1) _ (by omega) (by omega)).mono ?_
  rintro e w' ⟨rfl, n5, rfl⟩
  rw [show bt s (i + (j + 1)) = 114 from hd]
  clear hd
  go_wp2_with (at_builtin; refine wpList_append_own _ rfl _ _ 89 rfl w0.heap.size 5 i0 (.int .u8 0) 1 1 Tryz.underlying89 hi0 hz0 hz1 hz2 rfl (by decide) _ _ _ rfl ((own_below h.own (below_dn _ w _)).alloc _) ⟨w.heap.size, 0, none⟩ 1 1 [.int .u8 13] rfl rfl (cells_new _ #[.int .u8 13] 5) (by intro u hu; simp at hu; subst hu; rfl) (by unfold maxLen; omega) (by omega) (by have := (h.low).size; simp; omega) ?_; intro v' w1 hown' hgrow _)
  have R := quot_push (r := [asB 13]) ((own_below h.own (below_dn _ w _)).alloc _) (h.low.trans (below_dn _ _ _)) (h.low.trans (below_dn _ _ _)).size ((Below.refl _ _).alloc (Nat.le_refl _) _) hown' hgrow rfl (by rfl)
  obtain ⟨R1, R2⟩ := R
  clear hown' hgrow
  go_wp2_with fail
  refine ⟨⟨rfl, rfl, rfl, rfl, rfl, rfl, rfl, rfl, rfl, j + 2, l ++ [asB 13], fu - 1, rfl, ?_⟩, ?_⟩
  · exact { env := h.env, lx := h.lx, pos := h.pos, q13 := h.q13, le := by omega, own := R1, len := by simp; omega, low := R2, fuel := by have := h.fuel; omega, res := by exact Hres.out, ok := h.ok, esc := h.esc }
  · show s.size - i - ((j : Int) + 2).toNat < _
    omega
set_option maxHeartbeats 8000000 in
set_option maxRecDepth 1000000 in
theorem q_esc116 (g : Nat → Value) (s q name : ByteArray) (raw uni : Bool) (b f i j B fu : Nat) (v15 : Value) (l : List UInt8) (x : LxS) (w w0 : World) (R0 : QRes) (Q0 : Exit → Act → World → Prop) (h : QHead s q raw uni b f i B x w0 R0 j v15 l fu w)
    (hraw : raw = false) (hlt : i + j < s.size) (hne : startsB s (i + j) q = false) (h92 : bt s (i + j) = 92) (hd : bt s (i + j + 1) = 116) :
    Code.wp Tryz.prog qBody (Exit.then (fun a' w' => QInv s q name raw uni b f i B x w0 R0 a' w' ∧ qMu s i a' < s.size - i - j) Q0) ⟨#[.pointer (some ⟨b, 0, none⟩), .string q, .bool raw, .bool uni, .string name, .bool false, g 6, g 7, g 8, g 9, g 10, g 11, g 12, g 13, .int .i64 (j : Int), v15, .bool false, g 17, g 18, g 19, g 20, g 21, g 22, g 23, g 24, g 25, g 26, g 27, g 28, g 29, g 30, g 31, g 32, g 33, g 34, g 35, g 36, g 37, g 38, g 39, g 40, g 41, g 42, g 43, g 44, g 45, g 46, g 47, g 48, g 49, g 50, g 51, g 52, g 53, g 54, g 55, g 56, g 57, g 58, g 59, g 60, g 61, g 62, g 63, g 64, g 65, g 66, g 67, g 68, g 69, g 70, g 71, g 72, g 73, g 74, g 75, g 76, g 77, g 78, g 79, g 80, g 81, g 82, g 83, g 84, g 85, g 86, g 87, g 88, g 89, g 90, g 91, g 92, g 93, g 94, g 95, g 96, g 97, g 98, g 99, g 100, g 101, g 102, g 103, g 104, g 105, g 106, g 107, g 108, g 109, g 110, g 111, g 112, g 113, g 114, g 115, g 116, g 117, g 118, g 119, g 120, g 121, g 122, g 123, g 124, g 125, g 126, g 127, g 128, g 129, g 130, g 131, g 132, g 133, g 134, g 135, g 136, g 137, g 138, g 139, g 140, g 141, g 142, g 143, g 144, g 145, g 146, g 147, g 148, g 149, g 150, g 151, g 152, g 153, g 154, g 155, g 156, g 157, g 158, g 159, g 160, g 161, g 162, g 163, g 164, g 165, g 166, g 167, g 168, g 169, g 170, g 171, g 172, g 173, g 174, g 175, g 176, g 177, g 178, g 179, g 180, g 181, g 182, g 183, g 184, g 185, g 186, g 187, g 188, g 189, g 190, g 191, g 192, g 193, g 194, g 195, g 196, g 197, g 198, g 199, g 200, g 201, g 202, g 203, g 204, g 205, g 206, g 207, g 208, g 209, g 210, g 211, g 212, g 213, g 214, g 215, g 216, g 217, g 218, g 219, g 220, g 221, g 222, g 223, g 224, g 225, g 226, g 227, g 228, g 229, g 230, g 231, g 232, g 233, g 234, g 235, g 236, g 237, g 238, g 239, g 240, g 241, g 242, g 243, g 244, g 245, g 246, g 247, g 248, g 249, g 250, g 251, g 252, g 253, g 254, g 255, g 256, g 257, g 258, g 259, g 260, g 261, g 262, g 263, g 264, g 265, g 266, g 267, g 268, g 269, g 270, g 271, g 272, g 273, g 274, g 275, g 276, g 277, g 278, g 279, g 280, g 281, g 282, g 283, g 284, g 285, g 286, g 287, g 288, g 289, g 290, g 291, g 292, g 293, g 294, g 295, g 296, g 297, g 298, g 299, g 300, g 301, g 302, g 303, g 304, g 305, g 306, g 307, g 308, g 309, g 310, g 311, g 312, g 313, g 314, g 315, g 316, g 317, g 318, g 319, g 320, g 321, g 322, g 323, g 324, g 325, g 326, g 327, g 328, g 329, g 330, g 331, g 332, g 333, g 334, g 335, g 336, g 337, g 338, g 339, g 340, g 341, g 342, g 343, g 344, g 345, g 346, g 347, g 348, g 349, g 350, g 351, g 352, g 353, g 354, g 355, g 356, g 357, g 358, g 359, g 360, g 361, g 362, g 363, g 364, g 365, g 366, g 367, g 368, g 369, g 370, g 371, g 372, g 373, g 374, g 375, g 376, g 377, g 378, g 379, g 380, g 381, g 382, g 383, g 384, g 385, g 386, g 387, g 388, g 389, g 390, g 391, g 392, g 393, g 394, g 395, g 396, g 397, g 398, g 399, g 400, g 401, g 402, g 403, g 404, g 405, g 406, g 407, g 408, g 409, g 410, g 411, g 412, g 413, g 414, g 415, g 416, g 417, g 418, g 419, g 420, g 421, g 422, g 423, g 424, g 425, g 426, g 427, g 428, g 429, g 430, g 431, g 432, g 433, g 434, g 435, g 436, g 437, g 438, g 439, g 440, g 441, g 442, g 443, g 444, g 445, g 446, g 447, g 448, g 449, g 450, g 451, g 452, g 453, g 454, g 455, g 456, g 457, g 458, g 459, g 460, g 461, g 462, g 463, g 464, g 465, g 466, g 467, g 468, g 469, g 470, g 471, g 472, g 473, g 474, g 475, g 476, g 477, g 478, g 479, g 480, g 481, g 482, g 483, g 484, g 485, g 486, g 487, g 488, g 489, g 490, g 491, g 492, g 493, g 494, g 495, g 496, g 497, g 498, g 499, g 500, g 501, g 502, g 503, g 504, g 505, g 506, g 507, g 508, g 509, g 510, g 511], []⟩ w := by
  conv => arg 2; whnf
  have hs := h.env.small
  have hj := h.le
  have hq3 : 1 ≤ q.size ∧ q.size ≤ 3 := by have := h.q13; omega
  obtain ⟨he10, hnl⟩ := h.esc _ hlt h92
  have hst := (starts_eq s q (i + j) hj).trans hne
  obtain ⟨i0, hi0, hz0, hz1, hz2⟩ := info_parts info_u8
  have hll := h.len
  subst hraw
  have Hres : Hid (quotFrom s q false (!uni) (fu - 1) (i + (j + 2)) (l ++ [asB 9]) = R0) := by
    show _ = _
    rw [← h.res]
    obtain ⟨k, rfl⟩ : ∃ k, fu = k + 1 := ⟨fu - 1, by have := h.fuel; omega⟩
    exact (quotFrom_esc hlt hne (fun hn => by have hn1 := hn.1; unfold isNL at hn1; omega) h92 (escOf_simple (by omega) (by rw [hd]; exact simple_116))).symm
  clear hnl
  go_wp2_with fail
  refine (h.peekOk _ h.low j _ rfl (by omega)).mono ?_
  rintro e w' ⟨rfl, n1, rfl⟩
  rw [decide_eq_true hlt]
  go_wp2_with fail
  refine (h.slice _ (h.low.trans (below_dn _ _ _)) j (j + q.size) _ _ rfl (by omega) (by omega) (by omega) (by omega)).mono ?_
  rintro e w' ⟨rfl, n2, rfl⟩
  rw [show i + (j + q.size) = i + j + q.size by omega]
  go_wp2_with fail
  refine (h.peek _ (h.low.trans (below_dn _ _ _)) j _ rfl hlt).mono ?_
  rintro e w' ⟨rfl, n3, rfl⟩
  rw [h92]
  clear h92
  go_wp2_with fail
  refine (h.peekOk _ (h.low.trans (below_dn _ _ _)) (j + 1) _ (by omega) (by omega)).mono ?_
  rintro e w' ⟨rfl, n4, rfl⟩
  rw [decide_eq_true (show i + (j + 1) < s.size by omega)]
  go_wp2_with fail
  refine (h.peek _ (h.low.trans (below_dn _ _ _)) (j + 1) _ (by omega) (by omega)).mono ?_
  rintro e w' ⟨rfl, n5, rfl⟩
  rw [show bt s (i + (j + 1)) = 116 from hd]
  clear hd
  go_wp2_with (at_builtin; refine wpList_append_own _ rfl _ _ 89 rfl w0.heap.size 5 i0 (.int .u8 0) 1 1 Tryz.underlying89 hi0 hz0 hz1 hz2 rfl (by decide) _ _ _ rfl ((own_below h.own (below_dn _ w _)).alloc _) ⟨w.heap.size, 0, none⟩ 1 1 [.int .u8 9] rfl rfl (cells_new _ #[.int .u8 9] 5) (by intro u hu; simp at hu; subst hu; rfl) (by unfold maxLen; omega) (by omega) (by have := (h.low).size; simp; omega) ?_; intro v' w1 hown' hgrow _)
  have R := quot_push (r := [asB 9]) ((own_below h.own (below_dn _ w _)).alloc _) (h.low.trans (below_dn _ _ _)) (h.low.trans (below_dn _ _ _)).size ((Below.refl _ _).alloc (Nat.le_refl _) _) hown' hgrow rfl (by rfl)
  obtain ⟨R1, R2⟩ := R
  clear hown' hgrow
  go_wp2_with fail
  refine ⟨⟨rfl, rfl, rfl, rfl, rfl, rfl, rfl, rfl, rfl, j + 2, l ++ [asB 9], fu - 1, rfl, ?_⟩, ?_⟩
  · exact { env := h.env, lx := h.lx, pos := h.pos, q13 := h.q13, le := by omega, own := R1, len := by simp; omega, low := R2, fuel := by have := h.fuel; omega, res := by exact Hres.out, ok := h.ok, esc := h.esc }
  · show s.size - i - ((j : Int) + 2).toNat < _
    omega
end Go.Proofs.YtmkkeacbabmaeaaGreatDoor
namespace Go.Proofs.YtmkkeacbabmaeaaGreatDoor
open Go.RowKit Go.PlainAid

set_option maxHeartbeats 8000000 in
set_option maxRecDepth 1000000 in
theorem q_esc118 (g : Nat → Value) (s q name : ByteArray) (raw uni : Bool) (b f i j B fu : Nat) (v15 : Value) (l : List UInt8) (x : LxS) (w w0 : World) (R0 : QRes) (Q0 : Exit → Act → World → Prop) (h : QHead s q raw uni b f i B x w0 R0 j v15 l fu w)
    (hraw : raw = false) (hlt : i + j < s.size) (hne : startsB s (i + j) q = false) (h92 : bt s (i + j) = 92) (hd : bt s (i + j + 1) = 118) :
    Code.wp Tryz.prog qBody (Exit.then (fun a' w' => QInv s q name raw uni b f i B x w0 R0 a' w' ∧ qMu s i a' < s.size - i - j) Q0) ⟨#[.pointer (some ⟨b, 0, none⟩), .string q, .bool raw, .bool uni, .string name, .bool false, g 6, g 7, g 8, g 9, g 10, g 11, g 12, g 13, .int .i64 (j : Int), v15, .bool false, g 17, g 18, g 19, g 20, g 21, g 22, g 23, g 24, g 25, g 26, g 27, g 28, g 29, g 30, g 31, g 32, g 33, g 34, g 35, g 36, g 37, g 38, g 39, g 40, g 41, g 42, g 43, g 44, g 45, g 46, g 47, g 48, g 49, g 50, g 51, g 52, g 53, g 54, g 55, g 56, g 57, g 58, g 59, g 60, g 61, g 62, g 63, g 64, g 65, g 66, g 67, g 68, g 69, g 70, g 71, g 72, g 73, g 74, g 75, g 76, g 77, g 78, g 79, g 80, g 81, g 82, g 83, g 84, g 85, g 86, g 87, g 88, g 89, g 90, g 91, g 92, g 93, g 94, g 95, g 96, g 97, g 98, g 99, g 100, g 101, g 102, g 103, g 104, g 105, g 106, g 107, g 108, g 109, g 110, g 111, g 112, g 113, g 114, g 115, g 116, g 117, g 118, g 119, g 120, g 121, g 122, g 123, g 124, g 125, g 126, g 127, g 128, g 129, g 130, g 131, g 132, g 133, g 134, g 135, g 136, g 137, g 138, g 139, g 140, g 141, g 142, g 143, g 144, g 145, g 146, g 147, g 148, g 149, g 150, g 151, g 152, g 153, g 154, g 155, g 156, g 157, g 158, g 159, g 160, g 161, g 162, g 163, g 164, g 165, g 166, g 167, g 168, g 169, g 170, g 171, g 172, g 173, g 174, g 175, g 176, g 177, g 178, g 179, g 180, g 181, g 182, g 183, g 184, g 185, g 186, g 187, g 188, g 189, g 190, g 191, g 192, g 193, g 194, g 195, g 196, g 197, g 198, g 199, g 200, g 201, g 202, g 203, g 204, g 205, g 206, g 207, g 208, g 209, g 210, g 211, g 212, g 213, g 214, g 215, g 216, g 217, g 218, g 219, g 220, g 221, g 222, g 223, g 224, g 225, g 226, g 227, g 228, g 229, g 230, g 231, g 232, g 233, g 234, g 235, g 236, g 237, g 238, g 239, g 240, g 241, g 242, g 243, g 244, g 245, g 246, g 247, g 248, g 249, g 250, g 251, g 252, g 253, g 254, g 255, g 256, g 257, g 258, g 259, g 260, g 261, g 262, g 263, g 264, g 265, g 266, g 267, g 268, g 269, g 270, g 271, g 272, g 273, g 274, g 275, g 276, g 277, g 278, g 279, g 280, g 281, g 282, g 283, g 284, g 285, g 286, g 287, g 288, g 289, g 290, g 291, g 292, g 293, g 294, g 295, g 296, g 297, g 298, g 299, g 300, g 301, g 302, g 303, g 304, g 305, g 306, g 307, g 308, g 309, g 310, g 311, g 312, g 313, g 314, g 315, g 316, g 317, g 318, g 319, g 320, g 321, g 322, g 323, g 324, g 325, g 326, g 327, g 328, g 329, g 330, g 331, g 332, g 333, g 334, g 335, g 336, g 337, g 338, g 339, g 340, g 341, g 342, g 343, g 344, g 345, g 346, g 347, g 348, g 349, g 350, g 351, g 352, g 353, g 354, g 355, g 356, g 357, g 358, g 359, g 360, g 361, g 362, g 363, g 364, g 365, g 366, g 367, g 368, g 369, g 370, g 371, g 372, g 373, g 374, g 375, g 376, g 377, g 378, g 379, g 380, g 381, g 382, g 383, g 384, g 385, g 386, g 387, g 388, g 389, g 390, g 391, g 392, g 393, g 394, g 395, g 396, g 397, g 398, g 399, g 400, g 401, g 402, g 403, g 404, g 405, g 406, g 407, g 408, g 409, g 410, g 411, g 412, g 413, g 414, g 415, g 416, g 417, g 418, g 419, g 420, g 421, g 422, g 423, g 424, g 425, g 426, g 427, g 428, g 429, g 430, g 431, g 432, g 433, g 434, g 435, g 436, g 437, g 438, g 439, g 440, g 441, g 442, g 443, g 444, g 445, g 446, g 447, g 448, g 449, g 450, g 451, g 452, g 453, g 454, g 455, g 456, g 457, g 458, g 459, g 460, g 461, g 462, g 463, g 464, g 465, g 466, g 467, g 468, g 469, g 470, g 471, g 472, g 473, g 474, g 475, g 476, g 477, g 478, g 479, g 480, g 481, g 482, g 483, g 484, g 485, g 486, g 487, g 488, g 489, g 490, g 491, g 492, g 493, g 494, g 495, g 496, g 497, g 498, g 499, g 500, g 501, g 502, g 503, g 504, g 505, g 506, g 507, g 508, g 509, g 510, g 511], []⟩ w := by
  conv => arg 2; whnf
  have hs := h.env.small
  have hj := h.le
  have hq3 : 1 ≤ q.size ∧ q.size ≤ 3 := by have := h.q13; omega
  obtain ⟨he10, hnl⟩ := h.esc _ hlt h92
  have hst := (starts_eq s q (i + j) hj).trans hne
  obtain ⟨i0, hi0, hz0, hz1, hz2⟩ := info_parts info_u8
  have hll := h.len
  subst hraw
  have Hres : Hid (quotFrom s q false (!uni) (fu - 1) (i + (j + 2)) (l ++ [asB 11]) = R0) := by
    show _ = _
    rw [← h.res]
    obtain ⟨k, rfl⟩ : ∃ k, fu = k + 1 := ⟨fu - 1, by have := h.fuel; omega⟩
    exact (quotFrom_esc hlt hne (fun hn => by have hn1 := hn.1; unfold isNL at hn1; omega) h92 (escOf_simple (by omega) (by rw [hd]; exact simple_118))).symm
  clear hnl
  go_wp2_with fail
  refine (h.peekOk _ h.low j _ rfl (by omega)).mono ?_
  rintro e w' ⟨rfl, n1, rfl⟩
  rw [decide_eq_true hlt]
  go_wp2_with fail
  refine (h.slice _ (h.low.trans (below_dn _ _ _)) j (j + q.size) _ _ rfl (by omega) (by omega) (by omega) (by omega)).mono ?_
  rintro e w' ⟨rfl, n2, rfl⟩
  rw [show i + (j + q.size) = i + j + q.size by omega]
  go_wp2_with fail
  refine (h.peek _ (h.low.trans (below_dn _ _ _)) j _ rfl hlt).mono ?_
  rintro e w' ⟨rfl, n3, rfl⟩
  rw [h92]
  clear h92
  go_wp2_with fail
  refine (h.peekOk _ (h.low.trans (below_dn _ _ _)) (j + 1) _ (by omega) (by omega)).mono ?_
  rintro e w' ⟨rfl, n4, rfl⟩
  rw [decide_eq_true (show i + (j + 1) < s.size by omega)]
  go_wp2_with fail
  refine (h.peek _ (h.low.trans (below_dn _ _ _)) (j + 1) _ (by omega) (by omega)).mono ?_
  rintro e w' ⟨rfl, n5, rfl⟩
  rw [show bt s (i + (j + 1)) = 118 from hd]
  clear hd
  go_wp2_with (at_builtin; refine wpList_append_own _ rfl _ _ 89 rfl w0.heap.size 5 i0 (.int .u8 0) 1 1 Tryz.underlying89 hi0 hz0 hz1 hz2 rfl (by decide) _ _ _ rfl ((own_below h.own (below_dn _ w _)).alloc _) ⟨w.heap.size, 0, none⟩ 1 1 [.int .u8 11] rfl rfl (cells_new _ #[.int .u8 11] 5) (by intro u hu; simp at hu; subst hu; rfl) (by unfold maxLen; omega) (by omega) (by have := (h.low).size; simp; omega) ?_; intro v' w1 hown' hgrow _)
  have R := quot_push (r := [asB 11]) ((own_below h.own (below_dn _ w _)).alloc _) (h.low.trans (below_dn _ _ _)) (h.low.trans (below_dn _ _ _)).size ((Below.refl _ _).alloc (Nat.le_refl _) _) hown' hgrow rfl (by rfl)
  obtain ⟨R1, R2⟩ := R
  clear hown' hgrow
  go_wp2_with fail
  refine ⟨⟨rfl, rfl, rfl, rfl, rfl, rfl, rfl, rfl, rfl, j + 2, l ++ [asB 11], fu - 1, rfl, ?_⟩, ?_⟩
  · exact { env := h.env, lx := h.lx, pos := h.pos, q13 := h.q13, le := by omega, own := R1, len := by simp; omega, low := R2, fuel := by have := h.fuel; omega, res := by exact Hres.out, ok := h.ok, esc := h.esc }
  · show s.size - i - ((j : Int) + 2).toNat < _
    omega
set_option maxHeartbeats 8000000 in
set_option maxRecDepth 1000000 in
theorem q_esc92 (g : Nat → Value) (s q name : ByteArray) (raw uni : Bool) (b f i j B fu : Nat) (v15 : Value) (l : List UInt8) (x : LxS) (w w0 : World) (R0 : QRes) (Q0 : Exit → Act → World → Prop) (h : QHead s q raw uni b f i B x w0 R0 j v15 l fu w)
    (hraw : raw = false) (hlt : i + j < s.size) (hne : startsB s (i + j) q = false) (h92 : bt s (i + j) = 92) (hd : bt s (i + j + 1) = 92) :
    Code.wp Tryz.prog qBody (Exit.then (fun a' w' => QInv s q name raw uni b f i B x w0 R0 a' w' ∧ qMu s i a' < s.size - i - j) Q0) ⟨#[.pointer (some ⟨b, 0, none⟩), .string q, .bool raw, .bool uni, .string name, .bool false, g 6, g 7, g 8, g 9, g 10, g 11, g 12, g 13, .int .i64 (j : Int), v15, .bool false, g 17, g 18, g 19, g 20, g 21, g 22, g 23, g 24, g 25, g 26, g 27, g 28, g 29, g 30, g 31, g 32, g 33, g 34, g 35, g 36, g 37, g 38, g 39, g 40, g 41, g 42, g 43, g 44, g 45, g 46, g 47, g 48, g 49, g 50, g 51, g 52, g 53, g 54, g 55, g 56, g 57, g 58, g 59, g 60, g 61, g 62, g 63, g 64, g 65, g 66, g 67, g 68, g 69, g 70, g 71, g 72, g 73, g 74, g 75, g 76, g 77, g 78, g 79, g 80, g 81, g 82, g 83, g 84, g 85, g 86, g 87, g 88, g 89, g 90, g 91, g 92, g 93, g 94, g 95, g 96, g 97, g 98, g 99, g 100, g 101, g 102, g 103, g 104, g 105, g 106, g 107, g 108, g 109, g 110, g 111, g 112, g 113, g 114, g 115, g 116, g 117, g 118, g 119, g 120, g 121, g 122, g 123, g 124, g 125, g 126, g 127, g 128, g 129, g 130, g 131, g 132, g 133, g 134, g 135, g 136, g 137, g 138, g 139, g 140, g 141, g 142, g 143, g 144, g 145, g 146, g 147, g 148, g 149, g 150, g 151, g 152, g 153, g 154, g 155, g 156, g 157, g 158, g 159, g 160, g 161, g 162, g 163, g 164, g 165, g 166, g 167, g 168, g 169, g 170, g 171, g 172, g 173, g 174, g 175, g 176, g 177, g 178, g 179, g 180, g 181, g 182, g 183, g 184, g 185, g 186, g 187, g 188, g 189, g 190, g 191, g 192, g 193, g 194, g 195, g 196, g 197, g 198, g 199, g 200, g 201, g 202, g 203, g 204, g 205, g 206, g 207, g 208, g 209, g 210, g 211, g 212, g 213, g 214, g 215, g 216, g 217, g 218, g 219, g 220, g 221, g 222, g 223, g 224, g 225, g 226, g 227, g 228, g 229, g 230, g 231, g 232, g 233, g 234, g 235, g 236, g 237, g 238, g 239, g 240, g 241, g 242, g 243, g 244, g 245, g 246, g 247, g 248, g 249, g 250, g 251, g 252, g 253, g 254, g 255, g 256, g 257, g 258, g 259, g 260, g 261, g 262, g 263, g 264, g 265, g 266, g 267, g 268, g 269, g 270, g 271, g 272, g 273, g 274, g 275, g 276, g 277, g 278, g 279, g 280, g 281, g 282, g 283, g 284, g 285, g 286, g 287, g 288, g 289, g 290, g 291, g 292, g 293, g 294, g 295, g 296, g 297, g 298, g 299, g 300, g 301, g 302, g 303, g 304, g 305, g 306, g 307, g 308, g 309, g 310, g 311, g 312, g 313, g 314, g 315, g 316, g 317, g 318, g 319, g 320, g 321, g 322, g 323, g 324, g 325, g 326, g 327, g 328, g 329, g 330, g 331, g 332, g 333, g 334, g 335, g 336, g 337, g 338, g 339, g 340, g 341, g 342, g 343, g 344, g 345, g 346, g 347, g 348, g 349, g 350, g 351, g 352, g 353, g 354, g 355, g 356, g 357, g 358, g 359, g 360, g 361, g 362, g 363, g 364, g 365, g 366, g 367, g 368, g 369, g 370, g 371, g 372, g 373, g 374, g 375, g 376, g 377, g 378, g 379, g 380, g 381, g 382, g 383, g 384, g 385, g 386, g 387, g 388, g 389, g 390, g 391, g 392, g 393, g 394, g 395, g 396, g 397, g 398, g 399, g 400, g 401, g 402, g 403, g 404, g 405, g 406, g 407, g 408, g 409, g 410, g 411, g 412, g 413, g 414, g 415, g 416, g 417, g 418, g 419, g 420, g 421, g 422, g 423, g 424, g 425, g 426, g 427, g 428, g 429, g 430, g 431, g 432, g 433, g 434, g 435, g 436, g 437, g 438, g 439, g 440, g 441, g 442, g 443, g 444, g 445, g 446, g 447, g 448, g 449, g 450, g 451, g 452, g 453, g 454, g 455, g 456, g 457, g 458, g 459, g 460, g 461, g 462, g 463, g 464, g 465, g 466, g 467, g 468, g 469, g 470, g 471, g 472, g 473, g 474, g 475, g 476, g 477, g 478, g 479, g 480, g 481, g 482, g 483, g 484, g 485, g 486, g 487, g 488, g 489, g 490, g 491, g 492, g 493, g 494, g 495, g 496, g 497, g 498, g 499, g 500, g 501, g 502, g 503, g 504, g 505, g 506, g 507, g 508, g 509, g 510, g 511], []⟩ w := by
  conv => arg 2; whnf
  have hs := h.env.small
  have hj := h.le
  have hq3 : 1 ≤ q.size ∧ q.size ≤ 3 := by have := h.q13; omega
  obtain ⟨he10, hnl⟩ := h.esc _ hlt h92
  have hst := (starts_eq s q (i + j) hj).trans hne
  obtain ⟨i0, hi0, hz0, hz1, hz2⟩ := info_parts info_u8
  have hll := h.len
  subst hraw
  have Hres : Hid (quotFrom s q false (!uni) (fu - 1) (i + (j + 2)) (l ++ [asB 92]) = R0) := by
    show _ = _
    rw [← h.res]
    obtain ⟨k, rfl⟩ : ∃ k, fu = k + 1 := ⟨fu - 1, by have := h.fuel; omega⟩
    exact (quotFrom_esc hlt hne (fun hn => by have hn1 := hn.1; unfold isNL at hn1; omega) h92 (escOf_simple (by omega) (by rw [hd]; exact simple_92))).symm
  clear hnl
  go_wp2_with fail
  refine (h.peekOk _ h.low j _ rfl (by omega)).mono ?_
  rintro e w' ⟨rfl, n1, rfl⟩
  rw [decide_eq_true hlt]
  go_wp2_with fail
  refine (h.slice _ (h.low.trans (below_dn _ _ _)) j (j + q.size) _ _ rfl (by omega) (by omega) (by omega) (by omega)).mono ?_
  rintro e w' ⟨rfl, n2, rfl⟩
  rw [show i + (j + q.size) = i + j + q.size by omega]
  go_wp2_with fail
  refine (h.peek _ (h.low.trans (below_dn _ _ _)) j _ rfl hlt).mono ?_
  rintro e w' ⟨rfl, n3, rfl⟩
  rw [h92]
  clear h92
  go_wp2_with fail
  refine (h.peekOk _ (h.low.trans (below_dn _ _ _)) (j + 1) _ (by omega) (by omega)).mono ?_
  rintro e w' ⟨rfl, n4, rfl⟩
  rw [decide_eq_true (show i + (j + 1) < s.size by omega)]
  go_wp2_with fail
  refine (h.peek _ (h.low.trans (below_dn _ _ _)) (j + 1) _ (by omega) (by omega)).mono ?_
  rintro e w' ⟨rfl, n5, rfl⟩
  rw [show bt s (i + (j + 1)) = 92 from hd]
  clear hd
  go_wp2_with (at_builtin; refine wpList_append_own _ rfl _ _ 89 rfl w0.heap.size 5 i0 (.int .u8 0) 1 1 Tryz.underlying89 hi0 hz0 hz1 hz2 rfl (by decide) _ _ _ rfl ((own_below h.own (below_dn _ w _)).alloc _) ⟨w.heap.size, 0, none⟩ 1 1 [.int .u8 92] rfl rfl (cells_new _ #[.int .u8 92] 5) (by intro u hu; simp at hu; subst hu; rfl) (by unfold maxLen; omega) (by omega) (by have := (h.low).size; simp; omega) ?_; intro v' w1 hown' hgrow _)
  have R := quot_push (r := [asB 92]) ((own_below h.own (below_dn _ w _)).alloc _) (h.low.trans (below_dn _ _ _)) (h.low.trans (below_dn _ _ _)).size ((Below.refl _ _).alloc (Nat.le_refl _) _) hown' hgrow rfl (by rfl)
  obtain ⟨R1, R2⟩ := R
  clear hown' hgrow
  go_wp2_with fail
  refine ⟨⟨rfl, rfl, rfl, rfl, rfl, rfl, rfl, rfl, rfl, j + 2, l ++ [asB 92], fu - 1, rfl, ?_⟩, ?_⟩
  · exact { env := h.env, lx := h.lx, pos := h.pos, q13 := h.q13, le := by omega, own := R1, len := by simp; omega, low := R2, fuel := by have := h.fuel; omega, res := by exact Hres.out, ok := h.ok, esc := h.esc }
  · show s.size - i - ((j : Int) + 2).toNat < _
    omega
set_option maxHeartbeats 8000000 in
set_option maxRecDepth 1000000 in
theorem q_esc63 (g : Nat → Value) (s q name : ByteArray) (raw uni : Bool) (b f i j B fu : Nat) (v15 : Value) (l : List UInt8) (x : LxS) (w w0 : World) (R0 : QRes) (Q0 : Exit → Act → World → Prop) (h : QHead s q raw uni b f i B x w0 R0 j v15 l fu w)
    (hraw : raw = false) (hlt : i + j < s.size) (hne : startsB s (i + j) q = false) (h92 : bt s (i + j) = 92) (hd : bt s (i + j + 1) = 63) :
    Code.wp Tryz.prog qBody (Exit.then (fun a' w' => QInv s q name raw uni b f i B x w0 R0 a' w' ∧ qMu s i a' < s.size - i - j) Q0) ⟨#[.pointer (some ⟨b, 0, none⟩), .string q, .bool raw, .bool uni, .string name, .bool false, g 6, g 7, g 8, g 9, g 10, g 11, g 12, g 13, .int .i64 (j : Int), v15, .bool false, g 17, g 18, g 19, g 20, g 21, g 22, g 23, g 24, g 25, g 26, g 27, g 28, g 29, g 30, g 31, g 32, g 33, g 34, g 35, g 36, g 37, g 38, g 39, g 40, g 41, g 42, g 43, g 44, g 45, g 46, g 47, g 48, g 49, g 50, g 51, g 52, g 53, g 54, g 55, g 56, g 57, g 58, g 59, g 60, g 61, g 62, g 63, g 64, g 65, g 66, g 67, g 68, g 69, g 70, g 71, g 72, g 73, g 74, g 75, g 76, g 77, g 78, g 79, g 80, g 81, g 82, g 83, g 84, g 85, g 86, g 87, g 88, g 89, g 90, g 91, g 92, g 93, g 94, g 95, g 96, g 97, g 98, g 99, g 100, g 101, g 102, g 103, g 104, g 105, g 106, g 107, g 108, g 109, g 110, g 111, g 112, g 113, g 114, g 115, g 116, g 117, g 118, g 119, g 120, g 121, g 122, g 123, g 124, g 125, g 126, g 127, g 128, g 129, g 130, g 131, g 132, g 133, g 134, g 135, g 136, g 137, g 138, g 139, g 140, g 141, g 142, g 143, g 144, g 145, g 146, g 147, g 148, g 149, g 150, g 151, g 152, g 153, g 154, g 155, g 156, g 157, g 158, g 159, g 160, g 161, g 162, g 163, g 164, g 165, g 166, g 167, g 168, g 169, g 170, g 171, g 172, g 173, g 174, g 175, g 176, g 177, g 178, g 179, g 180, g 181, g 182, g 183, g 184, g 185, g 186, g 187, g 188, g 189, g 190, g 191, g 192, g 193, g 194, g 195, g 196, g 197, g 198, g 199, g 200, g 201, g 202, g 203, g 204, g 205, g 206, g 207, g 208, g 209, g 210, g 211, g 212, g 213, g 214, g 215, g 216, g 217, g 218, g 219, g 220, g 221, g 222, g 223, g 224, g 225, g 226, g 227, g 228, g 229, g 230, g 231, g 232, g 233, g 234, g 235, g 236, g 237, g 238, g 239, g 240, g 241, g 242, g 243, g 244, g 245, g 246, g 247, g 248, g 249, g 250, g 251, g 252, g 253, g 254, g 255, g 256, g 257, g 258, g 259, g 260, g 261, g 262, g 263, g 264, g 265, g 266, g 267, g 268, g 269, g 270, g 271, g 272, g 273, g 274, g 275, g 276, g 277, g 278, g 279, g 280, g 281, g 282, g 283, g 284, g 285, g 286, g 287, g 288, g 289, g 290, g 291, g 292, g 293, g 294, g 295, g 296, g 297, g 298, g 299, g 300, g 301, g 302, g 303, g 304, g 305, g 306, g 307, g 308, g 309, g 310, g 311, g 312, g 313, g 314, g 315, g 316, g 317, g 318, g 319, g 320, g 321, g 322, g 323, g 324, g 325, g 326, g 327, g 328, g 329, g 330, g 331, g 332, g 333, g 334, g 335, g 336, g 337, g 338, g 339, g 340, g 341, g 342, g 343, g 344, g 345, g 346, g 347, g 348, g 349, g 350, g 351, g 352, g 353, g 354, g 355, g 356, g 357, g 358, g 359, g 360, g 361, g 362, g 363, g 364, g 365, g 366, g 367, g 368, g 369, g 370, g 371, g 372, g 373, g 374, g 375, g 376, g 377, g 378, g 379, g 380, g 381, g 382, g 383, g 384, g 385, g 386, g 387, g 388, g 389, g 390, g 391, g 392, g 393, g 394, g 395, g 396, g 397, g 398, g 399, g 400, g 401, g 402, g 403, g 404, g 405, g 406, g 407, g 408, g 409, g 410, g 411, g 412, g 413, g 414, g 415, g 416, g 417, g 418, g 419, g 420, g 421, g 422, g 423, g 424, g 425, g 426, g 427, g 428, g 429, g 430, g 431, g 432, g 433, g 434, g 435, g 436, g 437, g 438, g 439, g 440, g 441, g 442, g 443, g 444, g 445, g 446, g 447, g 448, g 449, g 450, g 451, g 452, g 453, g 454, g 455, g 456, g 457, g 458, g 459, g 460, g 461, g 462, g 463, g 464, g 465, g 466, g 467, g 468, g 469, g 470, g 471, g 472, g 473, g 474, g 475, g 476, g 477, g 478, g 479, g 480, g 481, g 482, g 483, g 484, g 485, g 486, g 487, g 488, g 489, g 490, g 491, g 492, g 493, g 494, g 495, g 496, g 497, g 498, g 499, g 500, g 501, g 502, g 503, g 504, g 505, g 506, g 507, g 508, g 509, g 510, g 511], []⟩ w := by
  conv => arg 2; whnf
  have hs := h.env.small
  have hj := h.le
  have hq3 : 1 ≤ q.size ∧ q.size ≤ 3 := by have := h.q13; omega
  obtain ⟨he10, hnl⟩ := h.esc _ hlt h92
  have hst := (starts_eq s q (i + j) hj).trans hne
  obtain ⟨i0, hi0, hz0, hz1, hz2⟩ := info_parts info_u8
  have hll := h.len
  subst hraw
  have Hres : Hid (quotFrom s q false (!uni) (fu - 1) (i + (j + 2)) (l ++ [asB 63]) = R0) := by
    show _ = _
    rw [← h.res]
    obtain ⟨k, rfl⟩ : ∃ k, fu = k + 1 := ⟨fu - 1, by have := h.fuel; omega⟩
    exact (quotFrom_esc hlt hne (fun hn => by have hn1 := hn.1; unfold isNL at hn1; omega) h92 (escOf_simple (by omega) (by rw [hd]; exact simple_63))).symm
  clear hnl
  go_wp2_with fail
  refine (h.peekOk _ h.low j _ rfl (by omega)).mono ?_
  rintro e w' ⟨rfl, n1, rfl⟩
  rw [decide_eq_true hlt]
  go_wp2_with fail
  refine (h.slice _ (h.low.trans (below_dn _ _ _)) j (j + q.size) _ _ rfl (by omega) (by omega) (by omega) (by omega)).mono ?_
  rintro e w' ⟨rfl, n2, rfl⟩
  rw [show i + (j + q.size) = i + j + q.size by omega]
  go_wp2_with fail
  refine (h.peek _ (h.low.trans (below_dn _ _ _)) j _ rfl hlt).mono ?_
  rintro e w' ⟨rfl, n3, rfl⟩
  rw [h92]
  clear h92
  go_wp2_with fail
  refine (h.peekOk _ (h.low.trans (below_dn _ _ _)) (j + 1) _ (by omega) (by omega)).mono ?_
  rintro e w' ⟨rfl, n4, rfl⟩
  rw [decide_eq_true (show i + (j + 1) < s.size by omega)]
  go_wp2_with fail
  refine (h.peek _ (h.low.trans (below_dn _ _ _)) (j + 1) _ (by omega) (by omega)).mono ?_
  rintro e w' ⟨rfl, n5, rfl⟩
  rw [show bt s (i + (j + 1)) = 63 from hd]
  clear hd
  go_wp2_with (at_builtin; refine wpList_append_own _ rfl _ _ 89 rfl w0.heap.size 5 i0 (.int .u8 0) 1 1 Tryz.underlying89 hi0 hz0 hz1 hz2 rfl (by decide) _ _ _ rfl ((own_below h.own (below_dn _ w _)).alloc _) ⟨w.heap.size, 0, none⟩ 1 1 [.int .u8 63] rfl rfl (cells_new _ #[.int .u8 63] 5) (by intro u hu; simp at hu; subst hu; rfl) (by unfold maxLen; omega) (by omega) (by have := (h.low).size; simp; omega) ?_; intro v' w1 hown' hgrow _)
  have R := quot_push (r := [asB 63]) ((own_below h.own (below_dn _ w _)).alloc _) (h.low.trans (below_dn _ _ _)) (h.low.trans (below_dn _ _ _)).size ((Below.refl _ _).alloc (Nat.le_refl _) _) hown' hgrow rfl (by rfl)
  obtain ⟨R1, R2⟩ := R
  clear hown' hgrow
  go_wp2_with fail
  refine ⟨⟨rfl, rfl, rfl, rfl, rfl, rfl, rfl, rfl, rfl, j + 2, l ++ [asB 63], fu - 1, rfl, ?_⟩, ?_⟩
  · exact { env := h.env, lx := h.lx, pos := h.pos, q13 := h.q13, le := by omega, own := R1, len := by simp; omega, low := R2, fuel := by have := h.fuel; omega, res := by exact Hres.out, ok := h.ok, esc := h.esc }
  · show s.size - i - ((j : Int) + 2).toNat < _
    omega
set_option maxHeartbeats 8000000 in
set_option maxRecDepth 1000000 in
theorem q_esc34 (g : Nat → Value) (s q name : ByteArray) (raw uni : Bool) (b f i j B fu : Nat) (v15 : Value) (l : List UInt8) (x : LxS) (w w0 : World) (R0 : QRes) (Q0 : Exit → Act → World → Prop) (h : QHead s q raw uni b f i B x w0 R0 j v15 l fu w)
    (hraw : raw = false) (hlt : i + j < s.size) (hne : startsB s (i + j) q = false) (h92 : bt s (i + j) = 92) (hd : bt s (i + j + 1) = 34) :
    Code.wp Tryz.prog qBody (Exit.then (fun a' w' => QInv s q name raw uni b f i B x w0 R0 a' w' ∧ qMu s i a' < s.size - i - j) Q0) ⟨#[.pointer (some ⟨b, 0, none⟩), .string q, .bool raw, .bool uni, .string name, .bool false, g 6, g 7, g 8, g 9, g 10, g 11, g 12, g 13, .int .i64 (j : Int), v15, .bool false, g 17, g 18, g 19, g 20, g 21, g 22, g 23, g 24, g 25, g 26, g 27, g 28, g 29, g 30, g 31, g 32, g 33, g 34, g 35, g 36, g 37, g 38, g 39, g 40, g 41, g 42, g 43, g 44, g 45, g 46, g 47, g 48, g 49, g 50, g 51, g 52, g 53, g 54, g 55, g 56, g 57, g 58, g 59, g 60, g 61, g 62, g 63, g 64, g 65, g 66, g 67, g 68, g 69, g 70, g 71, g 72, g 73, g 74, g 75, g 76, g 77, g 78, g 79, g 80, g 81, g 82, g 83, g 84, g 85, g 86, g 87, g 88, g 89, g 90, g 91, g 92, g 93, g 94, g 95, g 96, g 97, g 98, g 99, g 100, g 101, g 102, g 103, g 104, g 105, g 106, g 107, g 108, g 109, g 110, g 111, g 112, g 113, g 114, g 115, g 116, g 117, g 118, g 119, g 120, g 121, g 122, g 123, g 124, g 125, g 126, g 127, g 128, g 129, g 130, g 131, g 132, g 133, g 134, g 135, g 136, g 137, g 138, g 139, g 140, g 141, g 142, g 143, g 144, g 145, g 146, g 147, g 148, g 149, g 150, g 151, g 152, g 153, g 154, g 155, g 156, g 157, g 158, g 159, g 160, g 161, g 162, g 163, g 164, g 165, g 166, g 167, g 168, g 169, g 170, g 171, g 172, g 173, g 174, g 175, g 176, g 177, g 178, g 179, g 180, g 181, g 182, g 183, g 184, g 185, g 186, g 187, g 188, g 189, g 190, g 191, g 192, g 193, g 194, g 195, g 196, g 197, g 198, g 199, g 200, g 201, g 202, g 203, g 204, g 205, g 206, g 207, g 208, g 209, g 210, g 211, g 212, g 213, g 214, g 215, g 216, g 217, g 218, g 219, g 220, g 221, g 222, g 223, g 224, g 225, g 226, g 227, g 228, g 229, g 230, g 231, g 232, g 233, g 234, g 235, g 236, g 237, g 238, g 239, g 240, g 241, g 242, g 243, g 244, g 245, g 246, g 247, g 248, g 249, g 250, g 251, g 252, g 253, g 254, g 255, g 256, g 257, g 258, g 259, g 260, g 261, g 262, g 263, g 264, g 265, g 266, g 267, g 268, g 269, g 270, g 271, g 272, g 273, g 274, g 275, g 276, g 277, g 278, g 279, g 280, g 281, g 282, g 283, g 284, g 285, g 286, g 287, g 288, g 289, g 290, g 291, g 292, g 293, g 294, g 295, g 296, g 297, g 298, g 299, g 300, g 301, g 302, g 303, g 304, g 305, g 306, g 307, g 308, g 309, g 310, g 311, g 312, g 313, g 314, g 315, g 316, g 317, g 318, g 319, g 320, g 321, g 322, g 323, g 324, g 325, g 326, g 327, g 328, g 329, g 330, g 331, g 332, g 333, g 334, g 335, g 336, g 337, g 338, g 339, g 340, g 341, g 342, g 343, g 344, g 345, g 346, g 347, g 348, g 349, g 350, g 351, g 352, g 353, g 354, g 355, g 356, g 357, g 358, g 359, g 360, g 361, g 362, g 363, g 364, g 365, g 366, g 367, g 368, g 369, g 370, g 371, g 372, g 373, g 374, g 375, g 376, g 377, g 378, g 379, g 380, g 381, g 382, g 383, g 384, g 385, g 386, g 387, g 388, g 389, g 390, g 391, g 392, g 393, g 394, g 395, g 396, g 397, g 398, g 399, g 400, g 401, g 402, g 403, g 404, g 405, g 406, g 407, g 408, g 409, g 410, g 411, g 412, g 413, g 414, g 415, g 416, g 417, g 418, g 419, g 420, g 421, g 422, g 423, g 424, g 425, g 426, g 427, g 428, g 429, g 430, g 431, g 432, g 433, g 434, g 435, g 436, g 437, g 438, g 439, g 440, g 441, g 442, g 443, g 444, g 445, g 446, g 447, g 448, g 449, g 450, g 451, g 452, g 453, g 454, g 455, g 456, g 457, g 458, g 459, g 460, g 461, g 462, g 463, g 464, g 465, g 466, g 467, g 468, g 469, g 470, g 471, g 472, g 473, g 474, g 475, g 476, g 477, g 478, g 479, g 480, g 481, g 482, g 483, g 484, g 485, g 486, g 487, g 488, g 489, g 490, g 491, g 492, g 493, g 494, g 495, g 496, g 497, g 498, g 499, g 500, g 501, g 502, g 503, g 504, g 505, g 506, g 507, g 508, g 509, g 510, g 511], []⟩ w := by
  conv => arg 2; whnf
  have hs := h.env.small
  have hj := h.le
  have hq3 : 1 ≤ q.size ∧ q.size ≤ 3 := by have := h.q13; omega
  obtain ⟨he10, hnl⟩ := h.esc _ hlt h92
  have hst := (starts_eq s q (i + j) hj).trans hne
  obtain ⟨i0, hi0, hz0, hz1, hz2⟩ := info_parts info_u8
  have hll := h.len
  subst hraw
  have Hres : Hid (quotFrom s q false (!uni) (fu - 1) (i + (j + 2)) (l ++ [asB 34]) = R0) := by
    show _ = _
    rw [← h.res]
    obtain ⟨k, rfl⟩ : ∃ k, fu = k + 1 := ⟨fu - 1, by have := h.fuel; omega⟩
    exact (quotFrom_esc hlt hne (fun hn => by have hn1 := hn.1; unfold isNL at hn1; omega) h92 (escOf_simple (by omega) (by rw [hd]; exact simple_34))).symm
  clear hnl
  go_wp2_with fail
  refine (h.peekOk _ h.low j _ rfl (by omega)).mono ?_
  rintro e w' ⟨rfl, n1, rfl⟩
  rw [decide_eq_true hlt]
  go_wp2_with fail
  refine (h.slice _ (h.low.trans (below_dn _ _ _)) j (j + q.size) _ _ rfl (by omega) (by omega) (by omega) (by omega)).mono ?_
  rintro e w' ⟨rfl, n2, rfl⟩
  rw [show i + (j + q.size) = i + j + q.size by omega]
  go_wp2_with fail
  refine (h.peek _ (h.low.trans (below_dn _ _ _)) j _ rfl hlt).mono ?_
  rintro e w' ⟨rfl, n3, rfl⟩
  rw [h92]
  clear h92
  go_wp2_with fail
  refine (h.peekOk _ (h.low.trans (below_dn _ _ _)) (j + 1) _ (by omega) (by omega)).mono ?_
  rintro e w' ⟨rfl, n4, rfl⟩
  rw [decide_eq_true (show i + (j + 1) < s.size by omega)]
  go_wp2_with fail
  refine (h.peek _ (h.low.trans (below_dn _ _ _)) (j + 1) _ (by omega) (by omega)).mono ?_
  rintro e w' ⟨rfl, n5, rfl⟩
  rw [show bt s (i + (j + 1)) = 34 from hd]
  clear hd
  go_wp2_with (at_builtin; refine wpList_append_own _ rfl _ _ 89 rfl w0.heap.size 5 i0 (.int .u8 0) 1 1 Tryz.underlying89 hi0 hz0 hz1 hz2 rfl (by decide) _ _ _ rfl ((own_below h.own (below_dn _ w _)).alloc _) ⟨w.heap.size, 0, none⟩ 1 1 [.int .u8 34] rfl rfl (cells_new _ #[.int .u8 34] 5) (by intro u hu; simp at hu; subst hu; rfl) (by unfold maxLen; omega) (by omega) (by have := (h.low).size; simp; omega) ?_; intro v' w1 hown' hgrow _)
  have R := quot_push (r := [asB 34]) ((own_below h.own (below_dn _ w _)).alloc _) (h.low.trans (below_dn _ _ _)) (h.low.trans (below_dn _ _ _)).size ((Below.refl _ _).alloc (Nat.le_refl _) _) hown' hgrow rfl (by rfl)
  obtain ⟨R1, R2⟩ := R
  clear hown' hgrow
  go_wp2_with fail
  refine ⟨⟨rfl, rfl, rfl, rfl, rfl, rfl, rfl, rfl, rfl, j + 2, l ++ [asB 34], fu - 1, rfl, ?_⟩, ?_⟩
  · exact { env := h.env, lx := h.lx, pos := h.pos, q13 := h.q13, le := by omega, own := R1, len := by simp; omega, low := R2, fuel := by have := h.fuel; omega, res := by exact Hres.out, ok := h.ok, esc := h.esc }
  · show s.size - i - ((j : Int) + 2).toNat < _
    omega
set_option maxHeartbeats 8000000 in
set_option maxRecDepth 1000000 in
theorem q_esc39 (g : Nat → Value) (s q name : ByteArray) (raw uni : Bool) (b f i j B fu : Nat) (v15 : Value) (l : List UInt8) (x : LxS) (w w0 : World) (R0 : QRes) (Q0 : Exit → Act → World → Prop) (h : QHead s q raw uni b f i B x w0 R0 j v15 l fu w)
    (hraw : raw = false) (hlt : i + j < s.size) (hne : startsB s (i + j) q = false) (h92 : bt s (i + j) = 92) (hd : bt s (i + j + 1) = 39) :
    Code.wp Tryz.prog qBody (Exit.then (fun a' w' => QInv s q name raw uni b f i B x w0 R0 a' w' ∧ qMu s i a' < s.size - i - j) Q0) ⟨#[.pointer (some ⟨b, 0, none⟩), .string q, .bool raw, .bool uni, .string name, .bool false, g 6, g 7, g 8, g 9, g 10, g 11, g 12, g 13, .int .i64 (j : Int), v15, .bool false, g 17, g 18, g 19, g 20, g 21, g 22, g 23, g 24, g 25, g 26, g 27, g 28, g 29, g 30, g 31, g 32, g 33, g 34, g 35, g 36, g 37, g 38, g 39, g 40, g 41, g 42, g 43, g 44, g 45, g 46, g 47, g 48, g 49, g 50, g 51, g 52, g 53, g 54, g 55, g 56, g 57, g 58, g 59, g 60, g 61, g 62, g 63, g 64, g 65, g 66, g 67, g 68, g 69, g 70, g 71, g 72, g 73, g 74, g 75, g 76, g 77, g 78, g 79, g 80, g 81, g 82, g 83, g 84, g 85, g 86, g 87, g 88, g 89, g 90, g 91, g 92, g 93, g 94, g 95, g 96, g 97, g 98, g 99, g 100, g 101, g 102, g 103, g 104, g 105, g 106, g 107, g 108, g 109, g 110, g 111, g 112, g 113, g 114, g 115, g 116, g 117, g 118, g 119, g 120, g 121, g 122, g 123, g 124, g 125, g 126, g 127, g 128, g 129, g 130, g 131, g 132, g 133, g 134, g 135, g 136, g 137, g 138, g 139, g 140, g 141, g 142, g 143, g 144, g 145, g 146, g 147, g 148, g 149, g 150, g 151, g 152, g 153, g 154, g 155, g 156, g 157, g 158, g 159, g 160, g 161, g 162, g 163, g 164, g 165, g 166, g 167, g 168, g 169, g 170, g 171, g 172, g 173, g 174, g 175, g 176, g 177, g 178, g 179, g 180, g 181, g 182, g 183, g 184, g 185, g 186, g 187, g 188, g 189, g 190, g 191, g 192, g 193, g 194, g 195, g 196, g 197, g 198, g 199, g 200, g 201, g 202, g 203, g 204, g 205, g 206, g 207, g 208, g 209, g 210, g 211, g 212, g 213, g 214, g 215, g 216, g 217, g 218, g 219, g 220, g 221, g 222, g 223, g 224, g 225, g 226, g 227, g 228, g 229, g 230, g 231, g 232, g 233, g 234, g 235, g 236, g 237, g 238, g 239, g 240, g 241, g 242, g 243, g 244, g 245, g 246, g 247, g 248, g 249, g 250, g 251, g 252, g 253, g 254, g 255, g 256, g 257, g 258, g 259, g 260, g 261, g 262, g 263, g 264, g 265, g 266, g 267, g 268, g 269, g 270, g 271, g 272, g 273, g 274, g 275, g 276, g 277, g 278, g 279, g 280, g 281, g 282, g 283, g 284, g 285, g 286, g 287, g 288, g 289, g 290, g 291, g 292, g 293, g 294, g 295, g 296, g 297, g 298, g 299, g 300, g 301, g 302, g 303, g 304, g 305, g 306, g 307, g 308, g 309, g 310, g 311, g 312, g 313, g 314, g 315, g 316, g 317, g 318, g 319, g 320, g 321, g 322, g 323, g 324, g 325, g 326, g 327, g 328, g 329, g 330, g 331, g 332, g 333, g 334, g 335, g 336, g 337, g 338, g 339, g 340, g 341, g 342, g 343, g 344, g 345, g 346, g 347, g 348, g 349, g 350, g 351, g 352, g 353, g 354, g 355, g 356, g 357, g 358, g 359, g 360, g 361, g 362, g 363, g 364, g 365, g 366, g 367, g 368, g 369, g 370, g 371, g 372, g 373, g 374, g 375, g 376, g 377, g 378, g 379, g 380, g 381, g 382, g 383, g 384, g 385, g 386, g 387, g 388, g 389, g 390, g 391, g 392, g 393, g 394, g 395, g 396, g 397, g 398, g 399, g 400, g 401, g 402, g 403, g 404, g 405, g 406, g 407, g 408, g 409, g 410, g 411, g 412, g 413, g 414, g 415, g 416, g 417, g 418, g 419, g 420, g 421, g 422, g 423, g 424, g 425, g 426, g 427, g 428, g 429, g 430, g 431, g 432, g 433, g 434, g 435, g 436, g 437, g 438, g 439, g 440, g 441, g 442, g 443, g 444, g 445, g 446, g 447, g 448, g 449, g 450, g 451, g 452, g 453, g 454, g 455, g 456, g 457, g 458, g 459, g 460, g 461, g 462, g 463, g 464, g 465, g 466, g 467, g 468, g 469, g 470, g 471, g 472, g 473, g 474, g 475, g 476, g 477, g 478, g 479, g 480, g 481, g 482, g 483, g 484, g 485, g 486, g 487, g 488, g 489, g 490, g 491, g 492, g 493, g 494, g 495, g 496, g 497, g 498, g 499, g 500, g 501, g 502, g 503, g 504, g 505, g 506, g 507, g 508, g 509, g 510, g 511], []⟩ w := by
  conv => arg 2; whnf
  have hs := h.env.small
  have hj := h.le
  have hq3 : 1 ≤ q.size ∧ q.size ≤ 3 := by have := h.q13; omega
  obtain ⟨he10, hnl⟩ := h.esc _ hlt h92
  have hst := (starts_eq s q (i + j) hj).trans hne
  obtain ⟨i0, hi0, hz0, hz1, hz2⟩ := info_parts info_u8
  have hll := h.len
  subst hraw
  have Hres : Hid (quotFrom s q false (!uni) (fu - 1) (i + (j + 2)) (l ++ [asB 39]) = R0) := by
    show _ = _
    rw [← h.res]
    obtain ⟨k, rfl⟩ : ∃ k, fu = k + 1 := ⟨fu - 1, by have := h.fuel; omega⟩
    exact (quotFrom_esc hlt hne (fun hn => by have hn1 := hn.1; unfold isNL at hn1; omega) h92 (escOf_simple (by omega) (by rw [hd]; exact simple_39))).symm
  clear hnl
  go_wp2_with fail
  refine (h.peekOk _ h.low j _ rfl (by omega)).mono ?_
  rintro e w' ⟨rfl, n1, rfl⟩
  rw [decide_eq_true hlt]
  go_wp2_with fail
  refine (h.slice _ (h.low.trans (below_dn _ _ _)) j (j + q.size) _ _ rfl (by omega) (by omega) (by omega) (by omega)).mono ?_
  rintro e w' ⟨rfl, n2, rfl⟩
  rw [show i + (j + q.size) = i + j + q.size by omega]
  go_wp2_with fail
  refine (h.peek _ (h.low.trans (below_dn _ _ _)) j _ rfl hlt).mono ?_
  rintro e w' ⟨rfl, n3, rfl⟩
  rw [h92]
  clear h92
  go_wp2_with fail
  refine (h.peekOk _ (h.low.trans (below_dn _ _ _)) (j + 1) _ (by omega) (by omega)).mono ?_
  rintro e w' ⟨rfl, n4, rfl⟩
  rw [decide_eq_true (show i + (j + 1) < s.size by omega)]
  go_wp2_with fail
  refine (h.peek _ (h.low.trans (below_dn _ _ _)) (j + 1) _ (by omega) (by omega)).mono ?_
  rintro e w' ⟨rfl, n5, rfl⟩
  rw [show bt s (i + (j + 1)) = 39 from hd]
  clear hd
  go_wp2_with (at_builtin; refine wpList_append_own _ rfl _ _ 89 rfl w0.heap.size 5 i0 (.int .u8 0) 1 1 Tryz.underlying89 hi0 hz0 hz1 hz2 rfl (by decide) _ _ _ rfl ((own_below h.own (below_dn _ w _)).alloc _) ⟨w.heap.size, 0, none⟩ 1 1 [.int .u8 39] rfl rfl (cells_new _ #[.int .u8 39] 5) (by intro u hu; simp at hu; subst hu; rfl) (by unfold maxLen; omega) (by omega) (by have := (h.low).size; simp; omega) ?_; intro v' w1 hown' hgrow _)
  have R := quot_push (r := [asB 39]) ((own_below h.own (below_dn _ w _)).alloc _) (h.low.trans (below_dn _ _ _)) (h.low.trans (below_dn _ _ _)).size ((Below.refl _ _).alloc (Nat.le_refl _) _) hown' hgrow rfl (by rfl)
  obtain ⟨R1, R2⟩ := R
  clear hown' hgrow
  go_wp2_with fail
  refine ⟨⟨rfl, rfl, rfl, rfl, rfl, rfl, rfl, rfl, rfl, j + 2, l ++ [asB 39], fu - 1, rfl, ?_⟩, ?_⟩
  · exact { env := h.env, lx := h.lx, pos := h.pos, q13 := h.q13, le := by omega, own := R1, len := by simp; omega, low := R2, fuel := by have := h.fuel; omega, res := by exact Hres.out, ok := h.ok, esc := h.esc }
  · show s.size - i - ((j : Int) + 2).toNat < _
    omega
set_option maxHeartbeats 8000000 in
set_option maxRecDepth 1000000 in
theorem q_esc96 (g : Nat → Value) (s q name : ByteArray) (raw uni : Bool) (b f i j B fu : Nat) (v15 : Value) (l : List UInt8) (x : LxS) (w w0 : World) (R0 : QRes) (Q0 : Exit → Act → World → Prop) (h : QHead s q raw uni b f i B x w0 R0 j v15 l fu w)
    (hraw : raw = false) (hlt : i + j < s.size) (hne : startsB s (i + j) q = false) (h92 : bt s (i + j) = 92) (hd : bt s (i + j + 1) = 96) :
    Code.wp Tryz.prog qBody (Exit.then (fun a' w' => QInv s q name raw uni b f i B x w0 R0 a' w' ∧ qMu s i a' < s.size - i - j) Q0) ⟨#[.pointer (some ⟨b, 0, none⟩), .string q, .bool raw, .bool uni, .string name, .bool false, g 6, g 7, g 8, g 9, g 10, g 11, g 12, g 13, .int .i64 (j : Int), v15, .bool false, g 17, g 18, g 19, g 20, g 21, g 22, g 23, g 24, g 25, g 26, g 27, g 28, g 29, g 30, g 31, g 32, g 33, g 34, g 35, g 36, g 37, g 38, g 39, g 40, g 41, g 42, g 43, g 44, g 45, g 46, g 47, g 48, g 49, g 50, g 51, g 52, g 53, g 54, g 55, g 56, g 57, g 58, g 59, g 60, g 61, g 62, g 63, g 64, g 65, g 66, g 67, g 68, g 69, g 70, g 71, g 72, g 73, g 74, g 75, g 76, g 77, g 78, g 79, g 80, g 81, g 82, g 83, g 84, g 85, g 86, g 87, g 88, g 89, g 90, g 91, g 92, g 93, g 94, g 95, g 96, g 97, g 98, g 99, g 100, g 101, g 102, g 103, g 104, g 105, g 106, g 107, g 108, g 109, g 110, g 111, g 112, g 113, g 114, g 115, g 116, g 117, g 118, g 119, g 120, g 121, g 122, g 123, g 124, g 125, g 126, g 127, g 128, g 129, g 130, g 131, g 132, g 133, g 134, g 135, g 136, g 137, g 138, g 139, g 140, g 141, g 142, g 143, g 144, g 145, g 146, g 147, g 148, g 149, g 150, g 151, g 152, g 153, g 154, g 155, g 156, g 157, g 158, g 159, g 160, g 161, g 162, g 163, g 164, g 165, g 166, g 167, g 168, g 169, g 170, g 171, g 172, g 173, g 174, g 175, g 176, g 177, g 178, g 179, g 180, g 181, g 182, g 183, g 184, g 185, g 186, g 187, g 188, g 189, g 190, g 191, g 192, g 193, g 194, g 195, g 196, g 197, g 198, g 199, g 200, g 201, g 202, g 203, g 204, g 205, g 206, g 207, g 208, g 209, g 210, g 211, g 212, g 213, g 214, g 215, g 216, g 217, g 218, g 219, g 220, g 221, g 222, g 223, g 224, g 225, g 226, g 227, g 228, g 229, g 230, g 231, g 232, g 233, g 234, g 235, g 236, g 237, g 238, g 239, g 240, g 241, g 242, g 243, g 244, g 245, g 246, g 247, g 248, g 249, g 250, g 251, g 252, g 253, g 254, g 255, g 256, g 257, g 258, g 259, g 260, g 261, g 262, g 263, g 264, g 265, g 266, g 267, g 268, g 269, g 270, g 271, g 272, g 273, g 274, g 275, g 276, g 277, g 278, g 279, g 280, g 281, g 282, g 283, g 284, g 285, g 286, g 287, g 288, g 289, g 290, g 291, g 292, g 293, g 294, g 295, g 296, g 297, g 298, g 299, g 300, g 301, g 302, g 303, g 304, g 305, g 306, g 307, g 308, g 309, g 310, g 311, g 312, g 313, g 314, g 315, g 316, g 317, g 318, g 319, g 320, g 321, g 322, g 323, g 324, g 325, g 326, g 327, g 328, g 329, g 330, g 331, g 332, g 333, g 334, g 335, g 336, g 337, g 338, g 339, g 340, g 341, g 342, g 343, g 344, g 345, g 346, g 347, g 348, g 349, g 350, g 351, g 352, g 353, g 354, g 355, g 356, g 357, g 358, g 359, g 360, g 361, g 362, g 363, g 364, g 365, g 366, g 367, g 368, g 369, g 370, g 371, g 372, g 373, g 374, g 375, g 376, g 377, g 378, g 379, g 380, g 381, g 382, g 383, g 384, g 385, g 386, g 387, g 388, g 389, g 390, g 391, g 392, g 393, g 394, g 395, g 396, g 397, g 398, g 399, g 400, g 401, g 402, g 403, g 404, g 405, g 406, g 407, g 408, g 409, g 410, g 411, g 412, g 413, g 414, g 415, g 416, g 417, g 418, g 419, g 420, g 421, g 422, g 423, g 424, g 425, g 426, g 427, g 428, g 429, g 430, g 431, g 432, g 433, g 434, g 435, g 436, g 437, g 438, g 439, g 440, g 441, g 442, g 443, g 444, g 445, g 446, g 447, g 448, g 449, g 450, g 451, g 452, g 453, g 454, g 455, g 456, g 457, g 458, g 459, g 460, g 461, g 462, g 463, g 464, g 465, g 466, g 467, g 468, g 469, g 470, g 471, g 472, g 473, g 474, g 475, g 476, g 477, g 478, g 479, g 480, g 481, g 482, g 483, g 484, g 485, g 486, g 487, g 488, g 489, g 490, g 491, g 492, g 493, g 494, g 495, g 496, g 497, g 498, g 499, g 500, g 501, g 502, g 503, g 504, g 505, g 506, g 507, g 508, g 509, g 510, g 511], []⟩ w := by
  conv => arg 2; whnf
  have hs := h.env.small
  have hj := h.le
  have hq3 : 1 ≤ q.size ∧ q.size ≤ 3 := by have := h.q13; omega
  obtain ⟨he10, hnl⟩ := h.esc _ hlt h92
  have hst := (starts_eq s q (i + j) hj).trans hne
  obtain ⟨i0, hi0, hz0, hz1, hz2⟩ := info_parts info_u8
  have hll := h.len
  subst hraw
  have Hres : Hid (quotFrom s q false (!uni) (fu - 1) (i + (j + 2)) (l ++ [asB 96]) = R0) := by
    show _ = _
    rw [← h.res]
    obtain ⟨k, rfl⟩ : ∃ k, fu = k + 1 := ⟨fu - 1, by have := h.fuel; omega⟩
    exact (quotFrom_esc hlt hne (fun hn => by have hn1 := hn.1; unfold isNL at hn1; omega) h92 (escOf_simple (by omega) (by rw [hd]; exact simple_96))).symm
  clear hnl
  go_wp2_with fail
  refine (h.peekOk _ h.low j _ rfl (by omega)).mono ?_
  rintro e w' ⟨rfl, n1, rfl⟩
  rw [decide_eq_true hlt]
  go_wp2_with fail
  refine (h.slice _ (h.low.trans (below_dn _ _ _)) j (j + q.size) _ _ rfl (by omega) (by omega) (by omega) (by omega)).mono ?_
  rintro e w' ⟨rfl, n2, rfl⟩
  rw [show i + (j + q.size) = i + j + q.size by omega]
  go_wp2_with fail
  refine (h.peek _ (h.low.trans (below_dn _ _ _)) j _ rfl hlt).mono ?_
  rintro e w' ⟨rfl, n3, rfl⟩
  rw [h92]
  clear h92
  go_wp2_with fail
  refine (h.peekOk _ (h.low.trans (below_dn _ _ _)) (j + 1) _ (by omega) (by omega)).mono ?_
  rintro e w' ⟨rfl, n4, rfl⟩
  rw [decide_eq_true (show i + (j + 1) < s.size by omega)]
  go_wp2_with fail
  refine (h.peek _ (h.low.trans (below_dn _ _ _)) (j + 1) _ (by omega) (by omega)).mono ?_
  rintro e w' ⟨rfl, n5, rfl⟩
  rw [show bt s (i + (j + 1)) = 96 from hd]
  clear hd
  go_wp2_with (at_builtin; refine wpList_append_own _ rfl _ _ 89 rfl w0.heap.size 5 i0 (.int .u8 0) 1 1 Tryz.underlying89 hi0 hz0 hz1 hz2 rfl (by decide) _ _ _ rfl ((own_below h.own (below_dn _ w _)).alloc _) ⟨w.heap.size, 0, none⟩ 1 1 [.int .u8 96] rfl rfl (cells_new _ #[.int .u8 96] 5) (by intro u hu; simp at hu; subst hu; rfl) (by unfold maxLen; omega) (by omega) (by have := (h.low).size; simp; omega) ?_; intro v' w1 hown' hgrow _)
  have R := quot_push (r := [asB 96]) ((own_below h.own (below_dn _ w _)).alloc _) (h.low.trans (below_dn _ _ _)) (h.low.trans (below_dn _ _ _)).size ((Below.refl _ _).alloc (Nat.le_refl _) _) hown' hgrow rfl (by rfl)
  obtain ⟨R1, R2⟩ := R
  clear hown' hgrow
  go_wp2_with fail
  refine ⟨⟨rfl, rfl, rfl, rfl, rfl, rfl, rfl, rfl, rfl, j + 2, l ++ [asB 96], fu - 1, rfl, ?_⟩, ?_⟩
  · exact { env := h.env, lx := h.lx, pos := h.pos, q13 := h.q13, le := by omega, own := R1, len := by simp; omega, low := R2, fuel := by have := h.fuel; omega, res := by exact Hres.out, ok := h.ok, esc := h.esc }
  · show s.size - i - ((j : Int) + 2).toNat < _
    omega
end Go.Proofs.YtmkkeacbabmaeaaGreatDoor
namespace Go.Proofs.YtmkkeacbabmaeaaGreatDoor
open Go.RowKit Go.PlainAid

/-- The loops of a piece of code, in the text's order. -/
def allLoops : Code → List Code
  | .loop c => c :: allLoops c
  | .seq a b => allLoops a ++ allLoops b
  | .block _ c => allLoops c
  | .scope c => allLoops c
  | .cond _ a b => allLoops a ++ allLoops b
  | _ => []
noncomputable def qLoopx : Code := (allLoops qBody).getD 0 .skip
noncomputable def qLoopu : Code := (allLoops qBody).getD 1 .skip
noncomputable def qLoopo : Code := (allLoops qBody).getD 2 .skip

set_option maxRecDepth 1000000 in
/-- A frame, written out. -/
theorem act_lit (a : Act) (h : a.tmps.toList.length = 512) (hd : a.defers = []) : ∃ g : Nat → Value, a = ⟨#[g 0, g 1, g 2, g 3, g 4, g 5, g 6, g 7, g 8, g 9, g 10, g 11, g 12, g 13, g 14, g 15, g 16, g 17, g 18, g 19, g 20, g 21, g 22, g 23, g 24, g 25, g 26, g 27, g 28, g 29, g 30, g 31, g 32, g 33, g 34, g 35, g 36, g 37, g 38, g 39, g 40, g 41, g 42, g 43, g 44, g 45, g 46, g 47, g 48, g 49, g 50, g 51, g 52, g 53, g 54, g 55, g 56, g 57, g 58, g 59, g 60, g 61, g 62, g 63, g 64, g 65, g 66, g 67, g 68, g 69, g 70, g 71, g 72, g 73, g 74, g 75, g 76, g 77, g 78, g 79, g 80, g 81, g 82, g 83, g 84, g 85, g 86, g 87, g 88, g 89, g 90, g 91, g 92, g 93, g 94, g 95, g 96, g 97, g 98, g 99, g 100, g 101, g 102, g 103, g 104, g 105, g 106, g 107, g 108, g 109, g 110, g 111, g 112, g 113, g 114, g 115, g 116, g 117, g 118, g 119, g 120, g 121, g 122, g 123, g 124, g 125, g 126, g 127, g 128, g 129, g 130, g 131, g 132, g 133, g 134, g 135, g 136, g 137, g 138, g 139, g 140, g 141, g 142, g 143, g 144, g 145, g 146, g 147, g 148, g 149, g 150, g 151, g 152, g 153, g 154, g 155, g 156, g 157, g 158, g 159, g 160, g 161, g 162, g 163, g 164, g 165, g 166, g 167, g 168, g 169, g 170, g 171, g 172, g 173, g 174, g 175, g 176, g 177, g 178, g 179, g 180, g 181, g 182, g 183, g 184, g 185, g 186, g 187, g 188, g 189, g 190, g 191, g 192, g 193, g 194, g 195, g 196, g 197, g 198, g 199, g 200, g 201, g 202, g 203, g 204, g 205, g 206, g 207, g 208, g 209, g 210, g 211, g 212, g 213, g 214, g 215, g 216, g 217, g 218, g 219, g 220, g 221, g 222, g 223, g 224, g 225, g 226, g 227, g 228, g 229, g 230, g 231, g 232, g 233, g 234, g 235, g 236, g 237, g 238, g 239, g 240, g 241, g 242, g 243, g 244, g 245, g 246, g 247, g 248, g 249, g 250, g 251, g 252, g 253, g 254, g 255, g 256, g 257, g 258, g 259, g 260, g 261, g 262, g 263, g 264, g 265, g 266, g 267, g 268, g 269, g 270, g 271, g 272, g 273, g 274, g 275, g 276, g 277, g 278, g 279, g 280, g 281, g 282, g 283, g 284, g 285, g 286, g 287, g 288, g 289, g 290, g 291, g 292, g 293, g 294, g 295, g 296, g 297, g 298, g 299, g 300, g 301, g 302, g 303, g 304, g 305, g 306, g 307, g 308, g 309, g 310, g 311, g 312, g 313, g 314, g 315, g 316, g 317, g 318, g 319, g 320, g 321, g 322, g 323, g 324, g 325, g 326, g 327, g 328, g 329, g 330, g 331, g 332, g 333, g 334, g 335, g 336, g 337, g 338, g 339, g 340, g 341, g 342, g 343, g 344, g 345, g 346, g 347, g 348, g 349, g 350, g 351, g 352, g 353, g 354, g 355, g 356, g 357, g 358, g 359, g 360, g 361, g 362, g 363, g 364, g 365, g 366, g 367, g 368, g 369, g 370, g 371, g 372, g 373, g 374, g 375, g 376, g 377, g 378, g 379, g 380, g 381, g 382, g 383, g 384, g 385, g 386, g 387, g 388, g 389, g 390, g 391, g 392, g 393, g 394, g 395, g 396, g 397, g 398, g 399, g 400, g 401, g 402, g 403, g 404, g 405, g 406, g 407, g 408, g 409, g 410, g 411, g 412, g 413, g 414, g 415, g 416, g 417, g 418, g 419, g 420, g 421, g 422, g 423, g 424, g 425, g 426, g 427, g 428, g 429, g 430, g 431, g 432, g 433, g 434, g 435, g 436, g 437, g 438, g 439, g 440, g 441, g 442, g 443, g 444, g 445, g 446, g 447, g 448, g 449, g 450, g 451, g 452, g 453, g 454, g 455, g 456, g 457, g 458, g 459, g 460, g 461, g 462, g 463, g 464, g 465, g 466, g 467, g 468, g 469, g 470, g 471, g 472, g 473, g 474, g 475, g 476, g 477, g 478, g 479, g 480, g 481, g 482, g 483, g 484, g 485, g 486, g 487, g 488, g 489, g 490, g 491, g 492, g 493, g 494, g 495, g 496, g 497, g 498, g 499, g 500, g 501, g 502, g 503, g 504, g 505, g 506, g 507, g 508, g 509, g 510, g 511], []⟩ ∧ ∀ k, sl a k = g k := by
  obtain ⟨⟨l⟩, ds⟩ := a
  have hd2 : ds = [] := hd
  subst hd2
  refine ⟨nth l, ?_, fun k => rfl⟩
  have e := frame_eta l 512 h
  have e2 : (List.range 512).map (nth l) = [nth l 0, nth l 1, nth l 2, nth l 3, nth l 4, nth l 5, nth l 6, nth l 7, nth l 8, nth l 9, nth l 10, nth l 11, nth l 12, nth l 13, nth l 14, nth l 15, nth l 16, nth l 17, nth l 18, nth l 19, nth l 20, nth l 21, nth l 22, nth l 23, nth l 24, nth l 25, nth l 26, nth l 27, nth l 28, nth l 29, nth l 30, nth l 31, nth l 32, nth l 33, nth l 34, nth l 35, nth l 36, nth l 37, nth l 38, nth l 39, nth l 40, nth l 41, nth l 42, nth l 43, nth l 44, nth l 45, nth l 46, nth l 47, nth l 48, nth l 49, nth l 50, nth l 51, nth l 52, nth l 53, nth l 54, nth l 55, nth l 56, nth l 57, nth l 58, nth l 59, nth l 60, nth l 61, nth l 62, nth l 63, nth l 64, nth l 65, nth l 66, nth l 67, nth l 68, nth l 69, nth l 70, nth l 71, nth l 72, nth l 73, nth l 74, nth l 75, nth l 76, nth l 77, nth l 78, nth l 79, nth l 80, nth l 81, nth l 82, nth l 83, nth l 84, nth l 85, nth l 86, nth l 87, nth l 88, nth l 89, nth l 90, nth l 91, nth l 92, nth l 93, nth l 94, nth l 95, nth l 96, nth l 97, nth l 98, nth l 99, nth l 100, nth l 101, nth l 102, nth l 103, nth l 104, nth l 105, nth l 106, nth l 107, nth l 108, nth l 109, nth l 110, nth l 111, nth l 112, nth l 113, nth l 114, nth l 115, nth l 116, nth l 117, nth l 118, nth l 119, nth l 120, nth l 121, nth l 122, nth l 123, nth l 124, nth l 125, nth l 126, nth l 127, nth l 128, nth l 129, nth l 130, nth l 131, nth l 132, nth l 133, nth l 134, nth l 135, nth l 136, nth l 137, nth l 138, nth l 139, nth l 140, nth l 141, nth l 142, nth l 143, nth l 144, nth l 145, nth l 146, nth l 147, nth l 148, nth l 149, nth l 150, nth l 151, nth l 152, nth l 153, nth l 154, nth l 155, nth l 156, nth l 157, nth l 158, nth l 159, nth l 160, nth l 161, nth l 162, nth l 163, nth l 164, nth l 165, nth l 166, nth l 167, nth l 168, nth l 169, nth l 170, nth l 171, nth l 172, nth l 173, nth l 174, nth l 175, nth l 176, nth l 177, nth l 178, nth l 179, nth l 180, nth l 181, nth l 182, nth l 183, nth l 184, nth l 185, nth l 186, nth l 187, nth l 188, nth l 189, nth l 190, nth l 191, nth l 192, nth l 193, nth l 194, nth l 195, nth l 196, nth l 197, nth l 198, nth l 199, nth l 200, nth l 201, nth l 202, nth l 203, nth l 204, nth l 205, nth l 206, nth l 207, nth l 208, nth l 209, nth l 210, nth l 211, nth l 212, nth l 213, nth l 214, nth l 215, nth l 216, nth l 217, nth l 218, nth l 219, nth l 220, nth l 221, nth l 222, nth l 223, nth l 224, nth l 225, nth l 226, nth l 227, nth l 228, nth l 229, nth l 230, nth l 231, nth l 232, nth l 233, nth l 234, nth l 235, nth l 236, nth l 237, nth l 238, nth l 239, nth l 240, nth l 241, nth l 242, nth l 243, nth l 244, nth l 245, nth l 246, nth l 247, nth l 248, nth l 249, nth l 250, nth l 251, nth l 252, nth l 253, nth l 254, nth l 255, nth l 256, nth l 257, nth l 258, nth l 259, nth l 260, nth l 261, nth l 262, nth l 263, nth l 264, nth l 265, nth l 266, nth l 267, nth l 268, nth l 269, nth l 270, nth l 271, nth l 272, nth l 273, nth l 274, nth l 275, nth l 276, nth l 277, nth l 278, nth l 279, nth l 280, nth l 281, nth l 282, nth l 283, nth l 284, nth l 285, nth l 286, nth l 287, nth l 288, nth l 289, nth l 290, nth l 291, nth l 292, nth l 293, nth l 294, nth l 295, nth l 296, nth l 297, nth l 298, nth l 299, nth l 300, nth l 301, nth l 302, nth l 303, nth l 304, nth l 305, nth l 306, nth l 307, nth l 308, nth l 309, nth l 310, nth l 311, nth l 312, nth l 313, nth l 314, nth l 315, nth l 316, nth l 317, nth l 318, nth l 319, nth l 320, nth l 321, nth l 322, nth l 323, nth l 324, nth l 325, nth l 326, nth l 327, nth l 328, nth l 329, nth l 330, nth l 331, nth l 332, nth l 333, nth l 334, nth l 335, nth l 336, nth l 337, nth l 338, nth l 339, nth l 340, nth l 341, nth l 342, nth l 343, nth l 344, nth l 345, nth l 346, nth l 347, nth l 348, nth l 349, nth l 350, nth l 351, nth l 352, nth l 353, nth l 354, nth l 355, nth l 356, nth l 357, nth l 358, nth l 359, nth l 360, nth l 361, nth l 362, nth l 363, nth l 364, nth l 365, nth l 366, nth l 367, nth l 368, nth l 369, nth l 370, nth l 371, nth l 372, nth l 373, nth l 374, nth l 375, nth l 376, nth l 377, nth l 378, nth l 379, nth l 380, nth l 381, nth l 382, nth l 383, nth l 384, nth l 385, nth l 386, nth l 387, nth l 388, nth l 389, nth l 390, nth l 391, nth l 392, nth l 393, nth l 394, nth l 395, nth l 396, nth l 397, nth l 398, nth l 399, nth l 400, nth l 401, nth l 402, nth l 403, nth l 404, nth l 405, nth l 406, nth l 407, nth l 408, nth l 409, nth l 410, nth l 411, nth l 412, nth l 413, nth l 414, nth l 415, nth l 416, nth l 417, nth l 418, nth l 419, nth l 420, nth l 421, nth l 422, nth l 423, nth l 424, nth l 425, nth l 426, nth l 427, nth l 428, nth l 429, nth l 430, nth l 431, nth l 432, nth l 433, nth l 434, nth l 435, nth l 436, nth l 437, nth l 438, nth l 439, nth l 440, nth l 441, nth l 442, nth l 443, nth l 444, nth l 445, nth l 446, nth l 447, nth l 448, nth l 449, nth l 450, nth l 451, nth l 452, nth l 453, nth l 454, nth l 455, nth l 456, nth l 457, nth l 458, nth l 459, nth l 460, nth l 461, nth l 462, nth l 463, nth l 464, nth l 465, nth l 466, nth l 467, nth l 468, nth l 469, nth l 470, nth l 471, nth l 472, nth l 473, nth l 474, nth l 475, nth l 476, nth l 477, nth l 478, nth l 479, nth l 480, nth l 481, nth l 482, nth l 483, nth l 484, nth l 485, nth l 486, nth l 487, nth l 488, nth l 489, nth l 490, nth l 491, nth l 492, nth l 493, nth l 494, nth l 495, nth l 496, nth l 497, nth l 498, nth l 499, nth l 500, nth l 501, nth l 502, nth l 503, nth l 504, nth l 505, nth l 506, nth l 507, nth l 508, nth l 509, nth l 510, nth l 511] := by simp only [List.range_eq_range', List.range', List.map_cons, List.map_nil, Nat.reduceAdd]
  rw [e2] at e
  exact congrArg (fun x => (⟨⟨x⟩, []⟩ : Act)) e
/-- The relation of loop x: what stays, and how many digits have been seen. -/
def LInvx (s q name : ByteArray) (raw uni : Bool) (b i J n : Nat) (d : Int) (v15 v22 : Value) (w : World) (a : Act) (w' : World) : Prop :=
  a.tmps.toList.length = 512 ∧ a.defers = [] ∧ sl a 0 = .pointer (some ⟨b, 0, none⟩) ∧ sl a 1 = .string q ∧ sl a 2 = .bool raw ∧ sl a 3 = .bool uni ∧ sl a 4 = .string name ∧ sl a 5 = .bool false ∧ sl a 14 = .int .i64 J ∧ sl a 15 = v15 ∧ sl a 16 = .bool false ∧ sl a 18 = .int .u8 d ∧ sl a 22 = v22 ∧
    ∃ m : Nat, sl a 184 = .int .i64 m ∧ m ≤ n ∧ (∀ k, k < m → hexB (bt s (i + J + k)) = true) ∧ ∃ dr, w' = w.drewN dr
/-- The relation of loop u: what stays, and how many digits have been seen. -/
def LInvu (s q name : ByteArray) (raw uni : Bool) (b i J n : Nat) (d : Int) (v15 v22 : Value) (w : World) (a : Act) (w' : World) : Prop :=
  a.tmps.toList.length = 512 ∧ a.defers = [] ∧ sl a 0 = .pointer (some ⟨b, 0, none⟩) ∧ sl a 1 = .string q ∧ sl a 2 = .bool raw ∧ sl a 3 = .bool uni ∧ sl a 4 = .string name ∧ sl a 5 = .bool false ∧ sl a 14 = .int .i64 J ∧ sl a 15 = v15 ∧ sl a 16 = .bool false ∧ sl a 18 = .int .u8 d ∧ sl a 22 = v22 ∧
    ∃ m : Nat, sl a 23 = .int .i64 m ∧ m ≤ n ∧ (∀ k, k < m → hexB (bt s (i + J + k)) = true) ∧ ∃ dr, w' = w.drewN dr
/-- The relation of loop o: what stays, and how many digits have been seen. -/
def LInvo (s q name : ByteArray) (raw uni : Bool) (b i J n : Nat) (d : Int) (v15 v22 : Value) (w : World) (a : Act) (w' : World) : Prop :=
  a.tmps.toList.length = 512 ∧ a.defers = [] ∧ sl a 0 = .pointer (some ⟨b, 0, none⟩) ∧ sl a 1 = .string q ∧ sl a 2 = .bool raw ∧ sl a 3 = .bool uni ∧ sl a 4 = .string name ∧ sl a 5 = .bool false ∧ sl a 14 = .int .i64 J ∧ sl a 15 = v15 ∧ sl a 16 = .bool false ∧ sl a 18 = .int .u8 d ∧ sl a 22 = v22 ∧
    ∃ m : Nat, sl a 393 = .int .i64 m ∧ m ≤ n ∧ (∀ k, k < m → octB (bt s (i + J + k)) = true) ∧ ∃ dr, w' = w.drewN dr
end Go.Proofs.YtmkkeacbabmaeaaGreatDoor
namespace Go.Proofs.YtmkkeacbabmaeaaGreatDoor
open Go.RowKit Go.PlainAid

set_option maxHeartbeats 8000000 in
set_option maxRecDepth 1000000 in
theorem loopx_good (g : Nat → Value) (s q name : ByteArray) (raw uni : Bool) (b f i j J B fu n : Nat) (d : Int) (v15 v22 : Value) (l : List UInt8) (x : LxS) (w w0 : World) (R0 : QRes) (dr m : Nat) (Q0 : Exit → Act → World → Prop) (h : QHead s q raw uni b f i B x w0 R0 j v15 l fu w) (hJ : i + J + n ≤ s.size) (hJ2 : 2 ≤ J) (hn : n = 2)
    (hm : m < n) (hc : hexB (bt s (i + J + m)) = true) (hall : ∀ k, k < m → hexB (bt s (i + J + k)) = true) :
    Code.wp Tryz.prog qLoopx (Exit.then (fun a' w' => LInvx s q name raw uni b i J n d v15 v22 w a' w' ∧ n - (intOf (sl a' 184)).toNat < n - m) Q0) ⟨#[.pointer (some ⟨b, 0, none⟩), .string q, .bool raw, .bool uni, .string name, .bool false, g 6, g 7, g 8, g 9, g 10, g 11, g 12, g 13, .int .i64 (J : Int), v15, .bool false, g 17, .int .u8 d, g 19, g 20, g 21, v22, g 23, g 24, g 25, g 26, g 27, g 28, g 29, g 30, g 31, g 32, g 33, g 34, g 35, g 36, g 37, g 38, g 39, g 40, g 41, g 42, g 43, g 44, g 45, g 46, g 47, g 48, g 49, g 50, g 51, g 52, g 53, g 54, g 55, g 56, g 57, g 58, g 59, g 60, g 61, g 62, g 63, g 64, g 65, g 66, g 67, g 68, g 69, g 70, g 71, g 72, g 73, g 74, g 75, g 76, g 77, g 78, g 79, g 80, g 81, g 82, g 83, g 84, g 85, g 86, g 87, g 88, g 89, g 90, g 91, g 92, g 93, g 94, g 95, g 96, g 97, g 98, g 99, g 100, g 101, g 102, g 103, g 104, g 105, g 106, g 107, g 108, g 109, g 110, g 111, g 112, g 113, g 114, g 115, g 116, g 117, g 118, g 119, g 120, g 121, g 122, g 123, g 124, g 125, g 126, g 127, g 128, g 129, g 130, g 131, g 132, g 133, g 134, g 135, g 136, g 137, g 138, g 139, g 140, g 141, g 142, g 143, g 144, g 145, g 146, g 147, g 148, g 149, g 150, g 151, g 152, g 153, g 154, g 155, g 156, g 157, g 158, g 159, g 160, g 161, g 162, g 163, g 164, g 165, g 166, g 167, g 168, g 169, g 170, g 171, g 172, g 173, g 174, g 175, g 176, g 177, g 178, g 179, g 180, g 181, g 182, g 183, .int .i64 (m : Int), g 185, g 186, g 187, g 188, g 189, g 190, g 191, g 192, g 193, g 194, g 195, g 196, g 197, g 198, g 199, g 200, g 201, g 202, g 203, g 204, g 205, g 206, g 207, g 208, g 209, g 210, g 211, g 212, g 213, g 214, g 215, g 216, g 217, g 218, g 219, g 220, g 221, g 222, g 223, g 224, g 225, g 226, g 227, g 228, g 229, g 230, g 231, g 232, g 233, g 234, g 235, g 236, g 237, g 238, g 239, g 240, g 241, g 242, g 243, g 244, g 245, g 246, g 247, g 248, g 249, g 250, g 251, g 252, g 253, g 254, g 255, g 256, g 257, g 258, g 259, g 260, g 261, g 262, g 263, g 264, g 265, g 266, g 267, g 268, g 269, g 270, g 271, g 272, g 273, g 274, g 275, g 276, g 277, g 278, g 279, g 280, g 281, g 282, g 283, g 284, g 285, g 286, g 287, g 288, g 289, g 290, g 291, g 292, g 293, g 294, g 295, g 296, g 297, g 298, g 299, g 300, g 301, g 302, g 303, g 304, g 305, g 306, g 307, g 308, g 309, g 310, g 311, g 312, g 313, g 314, g 315, g 316, g 317, g 318, g 319, g 320, g 321, g 322, g 323, g 324, g 325, g 326, g 327, g 328, g 329, g 330, g 331, g 332, g 333, g 334, g 335, g 336, g 337, g 338, g 339, g 340, g 341, g 342, g 343, g 344, g 345, g 346, g 347, g 348, g 349, g 350, g 351, g 352, g 353, g 354, g 355, g 356, g 357, g 358, g 359, g 360, g 361, g 362, g 363, g 364, g 365, g 366, g 367, g 368, g 369, g 370, g 371, g 372, g 373, g 374, g 375, g 376, g 377, g 378, g 379, g 380, g 381, g 382, g 383, g 384, g 385, g 386, g 387, g 388, g 389, g 390, g 391, g 392, g 393, g 394, g 395, g 396, g 397, g 398, g 399, g 400, g 401, g 402, g 403, g 404, g 405, g 406, g 407, g 408, g 409, g 410, g 411, g 412, g 413, g 414, g 415, g 416, g 417, g 418, g 419, g 420, g 421, g 422, g 423, g 424, g 425, g 426, g 427, g 428, g 429, g 430, g 431, g 432, g 433, g 434, g 435, g 436, g 437, g 438, g 439, g 440, g 441, g 442, g 443, g 444, g 445, g 446, g 447, g 448, g 449, g 450, g 451, g 452, g 453, g 454, g 455, g 456, g 457, g 458, g 459, g 460, g 461, g 462, g 463, g 464, g 465, g 466, g 467, g 468, g 469, g 470, g 471, g 472, g 473, g 474, g 475, g 476, g 477, g 478, g 479, g 480, g 481, g 482, g 483, g 484, g 485, g 486, g 487, g 488, g 489, g 490, g 491, g 492, g 493, g 494, g 495, g 496, g 497, g 498, g 499, g 500, g 501, g 502, g 503, g 504, g 505, g 506, g 507, g 508, g 509, g 510, g 511], []⟩ (w.drewN dr) := by
  conv => arg 2; whnf
  have hs := h.env.small
  subst hn
  have Hall := Lib.hid hall
  clear hall
  have hmb : decide ((m : Int) < 2) = true := by simp; omega
  go_wp2_with fail
  refine (h.peekOk _ (h.low.trans (below_dn _ _ _)) (J + m) _ (by omega) (by omega)).mono ?_
  rintro e w' ⟨rfl, n1, rfl⟩
  rw [decide_eq_true (show i + (J + m) < s.size by omega)]
  go_wp2_with fail
  refine (h.peek _ (h.low.trans (below_dn _ _ _)) (J + m) _ (by omega) (by omega)).mono ?_
  rintro e w' ⟨rfl, n2, rfl⟩
  rw [show i + (J + m) = i + J + m by omega]
  go_wp2_with fail
  refine (IsHex_c _ _).mono ?_
  rintro e w' ⟨rfl, hw⟩
  subst hw
  rw [hc]
  go_wp2_with fail
  refine ⟨⟨rfl, rfl, rfl, rfl, rfl, rfl, rfl, rfl, rfl, rfl, rfl, rfl, rfl, m + 1, rfl, hm, ?_, _, rfl⟩, ?_⟩
  · intro k hk
    by_cases e : k = m
    · subst e; exact hc
    · exact Hall.out k (by omega)
  · show _ - ((m : Int) + 1).toNat < _
    omega
set_option maxHeartbeats 8000000 in
set_option maxRecDepth 1000000 in
theorem loopx_bad (g : Nat → Value) (s q name : ByteArray) (raw uni : Bool) (b f i j J B fu n : Nat) (d : Int) (v15 v22 : Value) (l : List UInt8) (x : LxS) (w w0 : World) (R0 : QRes) (dr m : Nat) (Q0 : Exit → Act → World → Prop) (h : QHead s q raw uni b f i B x w0 R0 j v15 l fu w) (hJ : i + J + n ≤ s.size) (hJ2 : 2 ≤ J) (hn : n = 2)
    (hm : m < n) (hc : hexB (bt s (i + J + m)) = false) (hpan : ∀ a' w' ch, a'.defers = [] → Thrown B w0 (.panicked ch) w' → Q0 (.panic ch) a' w') :
    Code.wp Tryz.prog qLoopx (Exit.then (fun a' w' => LInvx s q name raw uni b i J n d v15 v22 w a' w' ∧ n - (intOf (sl a' 184)).toNat < n - m) Q0) ⟨#[.pointer (some ⟨b, 0, none⟩), .string q, .bool raw, .bool uni, .string name, .bool false, g 6, g 7, g 8, g 9, g 10, g 11, g 12, g 13, .int .i64 (J : Int), v15, .bool false, g 17, .int .u8 d, g 19, g 20, g 21, v22, g 23, g 24, g 25, g 26, g 27, g 28, g 29, g 30, g 31, g 32, g 33, g 34, g 35, g 36, g 37, g 38, g 39, g 40, g 41, g 42, g 43, g 44, g 45, g 46, g 47, g 48, g 49, g 50, g 51, g 52, g 53, g 54, g 55, g 56, g 57, g 58, g 59, g 60, g 61, g 62, g 63, g 64, g 65, g 66, g 67, g 68, g 69, g 70, g 71, g 72, g 73, g 74, g 75, g 76, g 77, g 78, g 79, g 80, g 81, g 82, g 83, g 84, g 85, g 86, g 87, g 88, g 89, g 90, g 91, g 92, g 93, g 94, g 95, g 96, g 97, g 98, g 99, g 100, g 101, g 102, g 103, g 104, g 105, g 106, g 107, g 108, g 109, g 110, g 111, g 112, g 113, g 114, g 115, g 116, g 117, g 118, g 119, g 120, g 121, g 122, g 123, g 124, g 125, g 126, g 127, g 128, g 129, g 130, g 131, g 132, g 133, g 134, g 135, g 136, g 137, g 138, g 139, g 140, g 141, g 142, g 143, g 144, g 145, g 146, g 147, g 148, g 149, g 150, g 151, g 152, g 153, g 154, g 155, g 156, g 157, g 158, g 159, g 160, g 161, g 162, g 163, g 164, g 165, g 166, g 167, g 168, g 169, g 170, g 171, g 172, g 173, g 174, g 175, g 176, g 177, g 178, g 179, g 180, g 181, g 182, g 183, .int .i64 (m : Int), g 185, g 186, g 187, g 188, g 189, g 190, g 191, g 192, g 193, g 194, g 195, g 196, g 197, g 198, g 199, g 200, g 201, g 202, g 203, g 204, g 205, g 206, g 207, g 208, g 209, g 210, g 211, g 212, g 213, g 214, g 215, g 216, g 217, g 218, g 219, g 220, g 221, g 222, g 223, g 224, g 225, g 226, g 227, g 228, g 229, g 230, g 231, g 232, g 233, g 234, g 235, g 236, g 237, g 238, g 239, g 240, g 241, g 242, g 243, g 244, g 245, g 246, g 247, g 248, g 249, g 250, g 251, g 252, g 253, g 254, g 255, g 256, g 257, g 258, g 259, g 260, g 261, g 262, g 263, g 264, g 265, g 266, g 267, g 268, g 269, g 270, g 271, g 272, g 273, g 274, g 275, g 276, g 277, g 278, g 279, g 280, g 281, g 282, g 283, g 284, g 285, g 286, g 287, g 288, g 289, g 290, g 291, g 292, g 293, g 294, g 295, g 296, g 297, g 298, g 299, g 300, g 301, g 302, g 303, g 304, g 305, g 306, g 307, g 308, g 309, g 310, g 311, g 312, g 313, g 314, g 315, g 316, g 317, g 318, g 319, g 320, g 321, g 322, g 323, g 324, g 325, g 326, g 327, g 328, g 329, g 330, g 331, g 332, g 333, g 334, g 335, g 336, g 337, g 338, g 339, g 340, g 341, g 342, g 343, g 344, g 345, g 346, g 347, g 348, g 349, g 350, g 351, g 352, g 353, g 354, g 355, g 356, g 357, g 358, g 359, g 360, g 361, g 362, g 363, g 364, g 365, g 366, g 367, g 368, g 369, g 370, g 371, g 372, g 373, g 374, g 375, g 376, g 377, g 378, g 379, g 380, g 381, g 382, g 383, g 384, g 385, g 386, g 387, g 388, g 389, g 390, g 391, g 392, g 393, g 394, g 395, g 396, g 397, g 398, g 399, g 400, g 401, g 402, g 403, g 404, g 405, g 406, g 407, g 408, g 409, g 410, g 411, g 412, g 413, g 414, g 415, g 416, g 417, g 418, g 419, g 420, g 421, g 422, g 423, g 424, g 425, g 426, g 427, g 428, g 429, g 430, g 431, g 432, g 433, g 434, g 435, g 436, g 437, g 438, g 439, g 440, g 441, g 442, g 443, g 444, g 445, g 446, g 447, g 448, g 449, g 450, g 451, g 452, g 453, g 454, g 455, g 456, g 457, g 458, g 459, g 460, g 461, g 462, g 463, g 464, g 465, g 466, g 467, g 468, g 469, g 470, g 471, g 472, g 473, g 474, g 475, g 476, g 477, g 478, g 479, g 480, g 481, g 482, g 483, g 484, g 485, g 486, g 487, g 488, g 489, g 490, g 491, g 492, g 493, g 494, g 495, g 496, g 497, g 498, g 499, g 500, g 501, g 502, g 503, g 504, g 505, g 506, g 507, g 508, g 509, g 510, g 511], []⟩ (w.drewN dr) := by
  conv => arg 2; whnf
  have hs := h.env.small
  subst hn
  have hmb : decide ((m : Int) < 2) = true := by simp; omega
  go_wp2_with fail
  refine (h.peekOk _ (h.low.trans (below_dn _ _ _)) (J + m) _ (by omega) (by omega)).mono ?_
  rintro e w' ⟨rfl, n1, rfl⟩
  rw [decide_eq_true (show i + (J + m) < s.size by omega)]
  go_wp2_with fail
  refine (h.peek _ (h.low.trans (below_dn _ _ _)) (J + m) _ (by omega) (by omega)).mono ?_
  rintro e w' ⟨rfl, n2, rfl⟩
  rw [show i + (J + m) = i + J + m by omega]
  go_wp2_with fail
  refine (IsHex_c _ _).mono ?_
  rintro e w' ⟨rfl, hw⟩
  subst hw
  rw [hc]
  go_wp2_with fail
  refine wp_region_still_tail 17 (by kernel_rfl) (by kernel_rfl) ?_
  simp only [List.take_succ_cons, List.take_zero, List.drop_succ_cons, List.drop_zero]
  have hV := (h.low.trans (below_dn _ w (dr + n1 + n2))).trans (drew_below w0.heap.size (w.drewN (dr + n1 + n2)))
  generalize ({ heap := (w.drewN (dr + n1 + n2)).heap, tape := (w.drewN (dr + n1 + n2)).tape, drawn := (w.drewN (dr + n1 + n2)).drawn + 1, os := (w.drewN (dr + n1 + n2)).os, output := (w.drewN (dr + n1 + n2)).output } : World) = V at hV ⊢
  have c9 := h.cell9w V hV
  repeat still_step
  refine wpStill_nil ?_
  go_wp2_with fail
  refine (h.panics V hV _ (i + J - 2) (i + J + m + 1) _ _ (by omega) (by omega) (by omega) (by omega)).mono ?_
  rintro e w1 k
  obtain ⟨v, p, rfl, herr, hlow⟩ := k
  exact hpan _ _ _ rfl ⟨v, p, rfl, herr, hlow⟩
set_option maxHeartbeats 8000000 in
set_option maxRecDepth 1000000 in
theorem loopx_end (g : Nat → Value) (s q name : ByteArray) (raw uni : Bool) (b f i j J B fu n : Nat) (d : Int) (v15 v22 : Value) (l : List UInt8) (x : LxS) (w w0 : World) (R0 : QRes) (dr m : Nat) (Q0 : Exit → Act → World → Prop) (h : QHead s q raw uni b f i B x w0 R0 j v15 l fu w) (hJ : i + J + n ≤ s.size) (hJ2 : 2 ≤ J) (hn : n = 2)
    (hm : ¬ m < n) (hexit : ∀ a' w', LInvx s q name raw uni b i J n d v15 v22 w a' w' → Q0 (.exit 3) a' w') (hmn : m ≤ n) (hall : ∀ k, k < m → hexB (bt s (i + J + k)) = true) :
    Code.wp Tryz.prog qLoopx (Exit.then (fun a' w' => LInvx s q name raw uni b i J n d v15 v22 w a' w' ∧ n - (intOf (sl a' 184)).toNat < n - m) Q0) ⟨#[.pointer (some ⟨b, 0, none⟩), .string q, .bool raw, .bool uni, .string name, .bool false, g 6, g 7, g 8, g 9, g 10, g 11, g 12, g 13, .int .i64 (J : Int), v15, .bool false, g 17, .int .u8 d, g 19, g 20, g 21, v22, g 23, g 24, g 25, g 26, g 27, g 28, g 29, g 30, g 31, g 32, g 33, g 34, g 35, g 36, g 37, g 38, g 39, g 40, g 41, g 42, g 43, g 44, g 45, g 46, g 47, g 48, g 49, g 50, g 51, g 52, g 53, g 54, g 55, g 56, g 57, g 58, g 59, g 60, g 61, g 62, g 63, g 64, g 65, g 66, g 67, g 68, g 69, g 70, g 71, g 72, g 73, g 74, g 75, g 76, g 77, g 78, g 79, g 80, g 81, g 82, g 83, g 84, g 85, g 86, g 87, g 88, g 89, g 90, g 91, g 92, g 93, g 94, g 95, g 96, g 97, g 98, g 99, g 100, g 101, g 102, g 103, g 104, g 105, g 106, g 107, g 108, g 109, g 110, g 111, g 112, g 113, g 114, g 115, g 116, g 117, g 118, g 119, g 120, g 121, g 122, g 123, g 124, g 125, g 126, g 127, g 128, g 129, g 130, g 131, g 132, g 133, g 134, g 135, g 136, g 137, g 138, g 139, g 140, g 141, g 142, g 143, g 144, g 145, g 146, g 147, g 148, g 149, g 150, g 151, g 152, g 153, g 154, g 155, g 156, g 157, g 158, g 159, g 160, g 161, g 162, g 163, g 164, g 165, g 166, g 167, g 168, g 169, g 170, g 171, g 172, g 173, g 174, g 175, g 176, g 177, g 178, g 179, g 180, g 181, g 182, g 183, .int .i64 (m : Int), g 185, g 186, g 187, g 188, g 189, g 190, g 191, g 192, g 193, g 194, g 195, g 196, g 197, g 198, g 199, g 200, g 201, g 202, g 203, g 204, g 205, g 206, g 207, g 208, g 209, g 210, g 211, g 212, g 213, g 214, g 215, g 216, g 217, g 218, g 219, g 220, g 221, g 222, g 223, g 224, g 225, g 226, g 227, g 228, g 229, g 230, g 231, g 232, g 233, g 234, g 235, g 236, g 237, g 238, g 239, g 240, g 241, g 242, g 243, g 244, g 245, g 246, g 247, g 248, g 249, g 250, g 251, g 252, g 253, g 254, g 255, g 256, g 257, g 258, g 259, g 260, g 261, g 262, g 263, g 264, g 265, g 266, g 267, g 268, g 269, g 270, g 271, g 272, g 273, g 274, g 275, g 276, g 277, g 278, g 279, g 280, g 281, g 282, g 283, g 284, g 285, g 286, g 287, g 288, g 289, g 290, g 291, g 292, g 293, g 294, g 295, g 296, g 297, g 298, g 299, g 300, g 301, g 302, g 303, g 304, g 305, g 306, g 307, g 308, g 309, g 310, g 311, g 312, g 313, g 314, g 315, g 316, g 317, g 318, g 319, g 320, g 321, g 322, g 323, g 324, g 325, g 326, g 327, g 328, g 329, g 330, g 331, g 332, g 333, g 334, g 335, g 336, g 337, g 338, g 339, g 340, g 341, g 342, g 343, g 344, g 345, g 346, g 347, g 348, g 349, g 350, g 351, g 352, g 353, g 354, g 355, g 356, g 357, g 358, g 359, g 360, g 361, g 362, g 363, g 364, g 365, g 366, g 367, g 368, g 369, g 370, g 371, g 372, g 373, g 374, g 375, g 376, g 377, g 378, g 379, g 380, g 381, g 382, g 383, g 384, g 385, g 386, g 387, g 388, g 389, g 390, g 391, g 392, g 393, g 394, g 395, g 396, g 397, g 398, g 399, g 400, g 401, g 402, g 403, g 404, g 405, g 406, g 407, g 408, g 409, g 410, g 411, g 412, g 413, g 414, g 415, g 416, g 417, g 418, g 419, g 420, g 421, g 422, g 423, g 424, g 425, g 426, g 427, g 428, g 429, g 430, g 431, g 432, g 433, g 434, g 435, g 436, g 437, g 438, g 439, g 440, g 441, g 442, g 443, g 444, g 445, g 446, g 447, g 448, g 449, g 450, g 451, g 452, g 453, g 454, g 455, g 456, g 457, g 458, g 459, g 460, g 461, g 462, g 463, g 464, g 465, g 466, g 467, g 468, g 469, g 470, g 471, g 472, g 473, g 474, g 475, g 476, g 477, g 478, g 479, g 480, g 481, g 482, g 483, g 484, g 485, g 486, g 487, g 488, g 489, g 490, g 491, g 492, g 493, g 494, g 495, g 496, g 497, g 498, g 499, g 500, g 501, g 502, g 503, g 504, g 505, g 506, g 507, g 508, g 509, g 510, g 511], []⟩ (w.drewN dr) := by
  conv => arg 2; whnf
  have hs := h.env.small
  subst hn
  have hmb : decide ((m : Int) < 2) = false := by simp; omega
  have Hx := Lib.hid hexit
  have Hall := Lib.hid hall
  clear hexit hall
  go_wp2_with fail
  exact Hx.out _ _ ⟨rfl, rfl, rfl, rfl, rfl, rfl, rfl, rfl, rfl, rfl, rfl, rfl, rfl, m, rfl, hmn, Hall.out, dr, rfl⟩
end Go.Proofs.YtmkkeacbabmaeaaGreatDoor
namespace Go.Proofs.YtmkkeacbabmaeaaGreatDoor
open Go.RowKit Go.PlainAid

set_option maxHeartbeats 8000000 in
set_option maxRecDepth 1000000 in
theorem loopu_good (g : Nat → Value) (s q name : ByteArray) (raw uni : Bool) (b f i j J B fu n : Nat) (d : Int) (v15 : Value) (l : List UInt8) (x : LxS) (w w0 : World) (R0 : QRes) (dr m : Nat) (Q0 : Exit → Act → World → Prop) (h : QHead s q raw uni b f i B x w0 R0 j v15 l fu w) (hJ : i + J + n ≤ s.size) (hJ2 : 2 ≤ J)
    (hm : m < n) (hc : hexB (bt s (i + J + m)) = true) (hall : ∀ k, k < m → hexB (bt s (i + J + k)) = true) :
    Code.wp Tryz.prog qLoopu (Exit.then (fun a' w' => LInvu s q name raw uni b i J n d v15 (.int .i64 (n : Int)) w a' w' ∧ n - (intOf (sl a' 23)).toNat < n - m) Q0) ⟨#[.pointer (some ⟨b, 0, none⟩), .string q, .bool raw, .bool uni, .string name, .bool false, g 6, g 7, g 8, g 9, g 10, g 11, g 12, g 13, .int .i64 (J : Int), v15, .bool false, g 17, .int .u8 d, g 19, g 20, g 21, .int .i64 (n : Int), .int .i64 (m : Int), g 24, g 25, g 26, g 27, g 28, g 29, g 30, g 31, g 32, g 33, g 34, g 35, g 36, g 37, g 38, g 39, g 40, g 41, g 42, g 43, g 44, g 45, g 46, g 47, g 48, g 49, g 50, g 51, g 52, g 53, g 54, g 55, g 56, g 57, g 58, g 59, g 60, g 61, g 62, g 63, g 64, g 65, g 66, g 67, g 68, g 69, g 70, g 71, g 72, g 73, g 74, g 75, g 76, g 77, g 78, g 79, g 80, g 81, g 82, g 83, g 84, g 85, g 86, g 87, g 88, g 89, g 90, g 91, g 92, g 93, g 94, g 95, g 96, g 97, g 98, g 99, g 100, g 101, g 102, g 103, g 104, g 105, g 106, g 107, g 108, g 109, g 110, g 111, g 112, g 113, g 114, g 115, g 116, g 117, g 118, g 119, g 120, g 121, g 122, g 123, g 124, g 125, g 126, g 127, g 128, g 129, g 130, g 131, g 132, g 133, g 134, g 135, g 136, g 137, g 138, g 139, g 140, g 141, g 142, g 143, g 144, g 145, g 146, g 147, g 148, g 149, g 150, g 151, g 152, g 153, g 154, g 155, g 156, g 157, g 158, g 159, g 160, g 161, g 162, g 163, g 164, g 165, g 166, g 167, g 168, g 169, g 170, g 171, g 172, g 173, g 174, g 175, g 176, g 177, g 178, g 179, g 180, g 181, g 182, g 183, g 184, g 185, g 186, g 187, g 188, g 189, g 190, g 191, g 192, g 193, g 194, g 195, g 196, g 197, g 198, g 199, g 200, g 201, g 202, g 203, g 204, g 205, g 206, g 207, g 208, g 209, g 210, g 211, g 212, g 213, g 214, g 215, g 216, g 217, g 218, g 219, g 220, g 221, g 222, g 223, g 224, g 225, g 226, g 227, g 228, g 229, g 230, g 231, g 232, g 233, g 234, g 235, g 236, g 237, g 238, g 239, g 240, g 241, g 242, g 243, g 244, g 245, g 246, g 247, g 248, g 249, g 250, g 251, g 252, g 253, g 254, g 255, g 256, g 257, g 258, g 259, g 260, g 261, g 262, g 263, g 264, g 265, g 266, g 267, g 268, g 269, g 270, g 271, g 272, g 273, g 274, g 275, g 276, g 277, g 278, g 279, g 280, g 281, g 282, g 283, g 284, g 285, g 286, g 287, g 288, g 289, g 290, g 291, g 292, g 293, g 294, g 295, g 296, g 297, g 298, g 299, g 300, g 301, g 302, g 303, g 304, g 305, g 306, g 307, g 308, g 309, g 310, g 311, g 312, g 313, g 314, g 315, g 316, g 317, g 318, g 319, g 320, g 321, g 322, g 323, g 324, g 325, g 326, g 327, g 328, g 329, g 330, g 331, g 332, g 333, g 334, g 335, g 336, g 337, g 338, g 339, g 340, g 341, g 342, g 343, g 344, g 345, g 346, g 347, g 348, g 349, g 350, g 351, g 352, g 353, g 354, g 355, g 356, g 357, g 358, g 359, g 360, g 361, g 362, g 363, g 364, g 365, g 366, g 367, g 368, g 369, g 370, g 371, g 372, g 373, g 374, g 375, g 376, g 377, g 378, g 379, g 380, g 381, g 382, g 383, g 384, g 385, g 386, g 387, g 388, g 389, g 390, g 391, g 392, g 393, g 394, g 395, g 396, g 397, g 398, g 399, g 400, g 401, g 402, g 403, g 404, g 405, g 406, g 407, g 408, g 409, g 410, g 411, g 412, g 413, g 414, g 415, g 416, g 417, g 418, g 419, g 420, g 421, g 422, g 423, g 424, g 425, g 426, g 427, g 428, g 429, g 430, g 431, g 432, g 433, g 434, g 435, g 436, g 437, g 438, g 439, g 440, g 441, g 442, g 443, g 444, g 445, g 446, g 447, g 448, g 449, g 450, g 451, g 452, g 453, g 454, g 455, g 456, g 457, g 458, g 459, g 460, g 461, g 462, g 463, g 464, g 465, g 466, g 467, g 468, g 469, g 470, g 471, g 472, g 473, g 474, g 475, g 476, g 477, g 478, g 479, g 480, g 481, g 482, g 483, g 484, g 485, g 486, g 487, g 488, g 489, g 490, g 491, g 492, g 493, g 494, g 495, g 496, g 497, g 498, g 499, g 500, g 501, g 502, g 503, g 504, g 505, g 506, g 507, g 508, g 509, g 510, g 511], []⟩ (w.drewN dr) := by
  conv => arg 2; whnf
  have hs := h.env.small
  have Hall := Lib.hid hall
  clear hall
  have hmb : decide ((m : Int) < (n : Int)) = true := by simp; omega
  go_wp2_with fail
  refine (h.peekOk _ (h.low.trans (below_dn _ _ _)) (J + m) _ (by omega) (by omega)).mono ?_
  rintro e w' ⟨rfl, n1, rfl⟩
  rw [decide_eq_true (show i + (J + m) < s.size by omega)]
  go_wp2_with fail
  refine (h.peek _ (h.low.trans (below_dn _ _ _)) (J + m) _ (by omega) (by omega)).mono ?_
  rintro e w' ⟨rfl, n2, rfl⟩
  rw [show i + (J + m) = i + J + m by omega]
  go_wp2_with fail
  refine (IsHex_c _ _).mono ?_
  rintro e w' ⟨rfl, hw⟩
  subst hw
  rw [hc]
  go_wp2_with fail
  refine ⟨⟨rfl, rfl, rfl, rfl, rfl, rfl, rfl, rfl, rfl, rfl, rfl, rfl, rfl, m + 1, rfl, hm, ?_, _, rfl⟩, ?_⟩
  · intro k hk
    by_cases e : k = m
    · subst e; exact hc
    · exact Hall.out k (by omega)
  · show _ - ((m : Int) + 1).toNat < _
    omega
set_option maxHeartbeats 8000000 in
set_option maxRecDepth 1000000 in
theorem loopu_bad (g : Nat → Value) (s q name : ByteArray) (raw uni : Bool) (b f i j J B fu n : Nat) (d : Int) (v15 : Value) (l : List UInt8) (x : LxS) (w w0 : World) (R0 : QRes) (dr m : Nat) (Q0 : Exit → Act → World → Prop) (h : QHead s q raw uni b f i B x w0 R0 j v15 l fu w) (hJ : i + J + n ≤ s.size) (hJ2 : 2 ≤ J)
    (hm : m < n) (hc : hexB (bt s (i + J + m)) = false) (hpan : ∀ a' w' ch, a'.defers = [] → Thrown B w0 (.panicked ch) w' → Q0 (.panic ch) a' w') :
    Code.wp Tryz.prog qLoopu (Exit.then (fun a' w' => LInvu s q name raw uni b i J n d v15 (.int .i64 (n : Int)) w a' w' ∧ n - (intOf (sl a' 23)).toNat < n - m) Q0) ⟨#[.pointer (some ⟨b, 0, none⟩), .string q, .bool raw, .bool uni, .string name, .bool false, g 6, g 7, g 8, g 9, g 10, g 11, g 12, g 13, .int .i64 (J : Int), v15, .bool false, g 17, .int .u8 d, g 19, g 20, g 21, .int .i64 (n : Int), .int .i64 (m : Int), g 24, g 25, g 26, g 27, g 28, g 29, g 30, g 31, g 32, g 33, g 34, g 35, g 36, g 37, g 38, g 39, g 40, g 41, g 42, g 43, g 44, g 45, g 46, g 47, g 48, g 49, g 50, g 51, g 52, g 53, g 54, g 55, g 56, g 57, g 58, g 59, g 60, g 61, g 62, g 63, g 64, g 65, g 66, g 67, g 68, g 69, g 70, g 71, g 72, g 73, g 74, g 75, g 76, g 77, g 78, g 79, g 80, g 81, g 82, g 83, g 84, g 85, g 86, g 87, g 88, g 89, g 90, g 91, g 92, g 93, g 94, g 95, g 96, g 97, g 98, g 99, g 100, g 101, g 102, g 103, g 104, g 105, g 106, g 107, g 108, g 109, g 110, g 111, g 112, g 113, g 114, g 115, g 116, g 117, g 118, g 119, g 120, g 121, g 122, g 123, g 124, g 125, g 126, g 127, g 128, g 129, g 130, g 131, g 132, g 133, g 134, g 135, g 136, g 137, g 138, g 139, g 140, g 141, g 142, g 143, g 144, g 145, g 146, g 147, g 148, g 149, g 150, g 151, g 152, g 153, g 154, g 155, g 156, g 157, g 158, g 159, g 160, g 161, g 162, g 163, g 164, g 165, g 166, g 167, g 168, g 169, g 170, g 171, g 172, g 173, g 174, g 175, g 176, g 177, g 178, g 179, g 180, g 181, g 182, g 183, g 184, g 185, g 186, g 187, g 188, g 189, g 190, g 191, g 192, g 193, g 194, g 195, g 196, g 197, g 198, g 199, g 200, g 201, g 202, g 203, g 204, g 205, g 206, g 207, g 208, g 209, g 210, g 211, g 212, g 213, g 214, g 215, g 216, g 217, g 218, g 219, g 220, g 221, g 222, g 223, g 224, g 225, g 226, g 227, g 228, g 229, g 230, g 231, g 232, g 233, g 234, g 235, g 236, g 237, g 238, g 239, g 240, g 241, g 242, g 243, g 244, g 245, g 246, g 247, g 248, g 249, g 250, g 251, g 252, g 253, g 254, g 255, g 256, g 257, g 258, g 259, g 260, g 261, g 262, g 263, g 264, g 265, g 266, g 267, g 268, g 269, g 270, g 271, g 272, g 273, g 274, g 275, g 276, g 277, g 278, g 279, g 280, g 281, g 282, g 283, g 284, g 285, g 286, g 287, g 288, g 289, g 290, g 291, g 292, g 293, g 294, g 295, g 296, g 297, g 298, g 299, g 300, g 301, g 302, g 303, g 304, g 305, g 306, g 307, g 308, g 309, g 310, g 311, g 312, g 313, g 314, g 315, g 316, g 317, g 318, g 319, g 320, g 321, g 322, g 323, g 324, g 325, g 326, g 327, g 328, g 329, g 330, g 331, g 332, g 333, g 334, g 335, g 336, g 337, g 338, g 339, g 340, g 341, g 342, g 343, g 344, g 345, g 346, g 347, g 348, g 349, g 350, g 351, g 352, g 353, g 354, g 355, g 356, g 357, g 358, g 359, g 360, g 361, g 362, g 363, g 364, g 365, g 366, g 367, g 368, g 369, g 370, g 371, g 372, g 373, g 374, g 375, g 376, g 377, g 378, g 379, g 380, g 381, g 382, g 383, g 384, g 385, g 386, g 387, g 388, g 389, g 390, g 391, g 392, g 393, g 394, g 395, g 396, g 397, g 398, g 399, g 400, g 401, g 402, g 403, g 404, g 405, g 406, g 407, g 408, g 409, g 410, g 411, g 412, g 413, g 414, g 415, g 416, g 417, g 418, g 419, g 420, g 421, g 422, g 423, g 424, g 425, g 426, g 427, g 428, g 429, g 430, g 431, g 432, g 433, g 434, g 435, g 436, g 437, g 438, g 439, g 440, g 441, g 442, g 443, g 444, g 445, g 446, g 447, g 448, g 449, g 450, g 451, g 452, g 453, g 454, g 455, g 456, g 457, g 458, g 459, g 460, g 461, g 462, g 463, g 464, g 465, g 466, g 467, g 468, g 469, g 470, g 471, g 472, g 473, g 474, g 475, g 476, g 477, g 478, g 479, g 480, g 481, g 482, g 483, g 484, g 485, g 486, g 487, g 488, g 489, g 490, g 491, g 492, g 493, g 494, g 495, g 496, g 497, g 498, g 499, g 500, g 501, g 502, g 503, g 504, g 505, g 506, g 507, g 508, g 509, g 510, g 511], []⟩ (w.drewN dr) := by
  conv => arg 2; whnf
  have hs := h.env.small
  have hmb : decide ((m : Int) < (n : Int)) = true := by simp; omega
  go_wp2_with fail
  refine (h.peekOk _ (h.low.trans (below_dn _ _ _)) (J + m) _ (by omega) (by omega)).mono ?_
  rintro e w' ⟨rfl, n1, rfl⟩
  rw [decide_eq_true (show i + (J + m) < s.size by omega)]
  go_wp2_with fail
  refine (h.peek _ (h.low.trans (below_dn _ _ _)) (J + m) _ (by omega) (by omega)).mono ?_
  rintro e w' ⟨rfl, n2, rfl⟩
  rw [show i + (J + m) = i + J + m by omega]
  go_wp2_with fail
  refine (IsHex_c _ _).mono ?_
  rintro e w' ⟨rfl, hw⟩
  subst hw
  rw [hc]
  go_wp2_with fail
  refine wp_region_still_tail 17 (by kernel_rfl) (by kernel_rfl) ?_
  simp only [List.take_succ_cons, List.take_zero, List.drop_succ_cons, List.drop_zero]
  have hV := (h.low.trans (below_dn _ w (dr + n1 + n2))).trans (drew_below w0.heap.size (w.drewN (dr + n1 + n2)))
  generalize ({ heap := (w.drewN (dr + n1 + n2)).heap, tape := (w.drewN (dr + n1 + n2)).tape, drawn := (w.drewN (dr + n1 + n2)).drawn + 1, os := (w.drewN (dr + n1 + n2)).os, output := (w.drewN (dr + n1 + n2)).output } : World) = V at hV ⊢
  have c9 := h.cell9w V hV
  repeat still_step
  refine wpStill_nil ?_
  go_wp2_with fail
  refine (h.panics V hV _ (i + J - 2) (i + J + m + 1) _ _ (by omega) (by omega) (by omega) (by omega)).mono ?_
  rintro e w1 k
  obtain ⟨v, p, rfl, herr, hlow⟩ := k
  exact hpan _ _ _ rfl ⟨v, p, rfl, herr, hlow⟩
set_option maxHeartbeats 8000000 in
set_option maxRecDepth 1000000 in
theorem loopu_end (g : Nat → Value) (s q name : ByteArray) (raw uni : Bool) (b f i j J B fu n : Nat) (d : Int) (v15 : Value) (l : List UInt8) (x : LxS) (w w0 : World) (R0 : QRes) (dr m : Nat) (Q0 : Exit → Act → World → Prop) (h : QHead s q raw uni b f i B x w0 R0 j v15 l fu w) (hJ : i + J + n ≤ s.size) (hJ2 : 2 ≤ J)
    (hm : ¬ m < n) (hexit : ∀ a' w', LInvu s q name raw uni b i J n d v15 (.int .i64 (n : Int)) w a' w' → Q0 (.exit 5) a' w') (hmn : m ≤ n) (hall : ∀ k, k < m → hexB (bt s (i + J + k)) = true) :
    Code.wp Tryz.prog qLoopu (Exit.then (fun a' w' => LInvu s q name raw uni b i J n d v15 (.int .i64 (n : Int)) w a' w' ∧ n - (intOf (sl a' 23)).toNat < n - m) Q0) ⟨#[.pointer (some ⟨b, 0, none⟩), .string q, .bool raw, .bool uni, .string name, .bool false, g 6, g 7, g 8, g 9, g 10, g 11, g 12, g 13, .int .i64 (J : Int), v15, .bool false, g 17, .int .u8 d, g 19, g 20, g 21, .int .i64 (n : Int), .int .i64 (m : Int), g 24, g 25, g 26, g 27, g 28, g 29, g 30, g 31, g 32, g 33, g 34, g 35, g 36, g 37, g 38, g 39, g 40, g 41, g 42, g 43, g 44, g 45, g 46, g 47, g 48, g 49, g 50, g 51, g 52, g 53, g 54, g 55, g 56, g 57, g 58, g 59, g 60, g 61, g 62, g 63, g 64, g 65, g 66, g 67, g 68, g 69, g 70, g 71, g 72, g 73, g 74, g 75, g 76, g 77, g 78, g 79, g 80, g 81, g 82, g 83, g 84, g 85, g 86, g 87, g 88, g 89, g 90, g 91, g 92, g 93, g 94, g 95, g 96, g 97, g 98, g 99, g 100, g 101, g 102, g 103, g 104, g 105, g 106, g 107, g 108, g 109, g 110, g 111, g 112, g 113, g 114, g 115, g 116, g 117, g 118, g 119, g 120, g 121, g 122, g 123, g 124, g 125, g 126, g 127, g 128, g 129, g 130, g 131, g 132, g 133, g 134, g 135, g 136, g 137, g 138, g 139, g 140, g 141, g 142, g 143, g 144, g 145, g 146, g 147, g 148, g 149, g 150, g 151, g 152, g 153, g 154, g 155, g 156, g 157, g 158, g 159, g 160, g 161, g 162, g 163, g 164, g 165, g 166, g 167, g 168, g 169, g 170, g 171, g 172, g 173, g 174, g 175, g 176, g 177, g 178, g 179, g 180, g 181, g 182, g 183, g 184, g 185, g 186, g 187, g 188, g 189, g 190, g 191, g 192, g 193, g 194, g 195, g 196, g 197, g 198, g 199, g 200, g 201, g 202, g 203, g 204, g 205, g 206, g 207, g 208, g 209, g 210, g 211, g 212, g 213, g 214, g 215, g 216, g 217, g 218, g 219, g 220, g 221, g 222, g 223, g 224, g 225, g 226, g 227, g 228, g 229, g 230, g 231, g 232, g 233, g 234, g 235, g 236, g 237, g 238, g 239, g 240, g 241, g 242, g 243, g 244, g 245, g 246, g 247, g 248, g 249, g 250, g 251, g 252, g 253, g 254, g 255, g 256, g 257, g 258, g 259, g 260, g 261, g 262, g 263, g 264, g 265, g 266, g 267, g 268, g 269, g 270, g 271, g 272, g 273, g 274, g 275, g 276, g 277, g 278, g 279, g 280, g 281, g 282, g 283, g 284, g 285, g 286, g 287, g 288, g 289, g 290, g 291, g 292, g 293, g 294, g 295, g 296, g 297, g 298, g 299, g 300, g 301, g 302, g 303, g 304, g 305, g 306, g 307, g 308, g 309, g 310, g 311, g 312, g 313, g 314, g 315, g 316, g 317, g 318, g 319, g 320, g 321, g 322, g 323, g 324, g 325, g 326, g 327, g 328, g 329, g 330, g 331, g 332, g 333, g 334, g 335, g 336, g 337, g 338, g 339, g 340, g 341, g 342, g 343, g 344, g 345, g 346, g 347, g 348, g 349, g 350, g 351, g 352, g 353, g 354, g 355, g 356, g 357, g 358, g 359, g 360, g 361, g 362, g 363, g 364, g 365, g 366, g 367, g 368, g 369, g 370, g 371, g 372, g 373, g 374, g 375, g 376, g 377, g 378, g 379, g 380, g 381, g 382, g 383, g 384, g 385, g 386, g 387, g 388, g 389, g 390, g 391, g 392, g 393, g 394, g 395, g 396, g 397, g 398, g 399, g 400, g 401, g 402, g 403, g 404, g 405, g 406, g 407, g 408, g 409, g 410, g 411, g 412, g 413, g 414, g 415, g 416, g 417, g 418, g 419, g 420, g 421, g 422, g 423, g 424, g 425, g 426, g 427, g 428, g 429, g 430, g 431, g 432, g 433, g 434, g 435, g 436, g 437, g 438, g 439, g 440, g 441, g 442, g 443, g 444, g 445, g 446, g 447, g 448, g 449, g 450, g 451, g 452, g 453, g 454, g 455, g 456, g 457, g 458, g 459, g 460, g 461, g 462, g 463, g 464, g 465, g 466, g 467, g 468, g 469, g 470, g 471, g 472, g 473, g 474, g 475, g 476, g 477, g 478, g 479, g 480, g 481, g 482, g 483, g 484, g 485, g 486, g 487, g 488, g 489, g 490, g 491, g 492, g 493, g 494, g 495, g 496, g 497, g 498, g 499, g 500, g 501, g 502, g 503, g 504, g 505, g 506, g 507, g 508, g 509, g 510, g 511], []⟩ (w.drewN dr) := by
  conv => arg 2; whnf
  have hs := h.env.small
  have hmb : decide ((m : Int) < (n : Int)) = false := by simp; omega
  have Hx := Lib.hid hexit
  have Hall := Lib.hid hall
  clear hexit hall
  go_wp2_with fail
  exact Hx.out _ _ ⟨rfl, rfl, rfl, rfl, rfl, rfl, rfl, rfl, rfl, rfl, rfl, rfl, rfl, m, rfl, hmn, Hall.out, dr, rfl⟩
end Go.Proofs.YtmkkeacbabmaeaaGreatDoor
namespace Go.Proofs.YtmkkeacbabmaeaaGreatDoor
open Go.RowKit Go.PlainAid

set_option maxHeartbeats 8000000 in
set_option maxRecDepth 1000000 in
theorem loopo_good (g : Nat → Value) (s q name : ByteArray) (raw uni : Bool) (b f i j J B fu n : Nat) (d : Int) (v15 v22 : Value) (l : List UInt8) (x : LxS) (w w0 : World) (R0 : QRes) (dr m : Nat) (Q0 : Exit → Act → World → Prop) (h : QHead s q raw uni b f i B x w0 R0 j v15 l fu w) (hJ : i + J + n ≤ s.size) (hJ2 : 2 ≤ J) (hn : n = 2)
    (hm : m < n) (hc : octB (bt s (i + J + m)) = true) (hall : ∀ k, k < m → octB (bt s (i + J + k)) = true) :
    Code.wp Tryz.prog qLoopo (Exit.then (fun a' w' => LInvo s q name raw uni b i J n d v15 v22 w a' w' ∧ n - (intOf (sl a' 393)).toNat < n - m) Q0) ⟨#[.pointer (some ⟨b, 0, none⟩), .string q, .bool raw, .bool uni, .string name, .bool false, g 6, g 7, g 8, g 9, g 10, g 11, g 12, g 13, .int .i64 (J : Int), v15, .bool false, g 17, .int .u8 d, g 19, g 20, g 21, v22, g 23, g 24, g 25, g 26, g 27, g 28, g 29, g 30, g 31, g 32, g 33, g 34, g 35, g 36, g 37, g 38, g 39, g 40, g 41, g 42, g 43, g 44, g 45, g 46, g 47, g 48, g 49, g 50, g 51, g 52, g 53, g 54, g 55, g 56, g 57, g 58, g 59, g 60, g 61, g 62, g 63, g 64, g 65, g 66, g 67, g 68, g 69, g 70, g 71, g 72, g 73, g 74, g 75, g 76, g 77, g 78, g 79, g 80, g 81, g 82, g 83, g 84, g 85, g 86, g 87, g 88, g 89, g 90, g 91, g 92, g 93, g 94, g 95, g 96, g 97, g 98, g 99, g 100, g 101, g 102, g 103, g 104, g 105, g 106, g 107, g 108, g 109, g 110, g 111, g 112, g 113, g 114, g 115, g 116, g 117, g 118, g 119, g 120, g 121, g 122, g 123, g 124, g 125, g 126, g 127, g 128, g 129, g 130, g 131, g 132, g 133, g 134, g 135, g 136, g 137, g 138, g 139, g 140, g 141, g 142, g 143, g 144, g 145, g 146, g 147, g 148, g 149, g 150, g 151, g 152, g 153, g 154, g 155, g 156, g 157, g 158, g 159, g 160, g 161, g 162, g 163, g 164, g 165, g 166, g 167, g 168, g 169, g 170, g 171, g 172, g 173, g 174, g 175, g 176, g 177, g 178, g 179, g 180, g 181, g 182, g 183, g 184, g 185, g 186, g 187, g 188, g 189, g 190, g 191, g 192, g 193, g 194, g 195, g 196, g 197, g 198, g 199, g 200, g 201, g 202, g 203, g 204, g 205, g 206, g 207, g 208, g 209, g 210, g 211, g 212, g 213, g 214, g 215, g 216, g 217, g 218, g 219, g 220, g 221, g 222, g 223, g 224, g 225, g 226, g 227, g 228, g 229, g 230, g 231, g 232, g 233, g 234, g 235, g 236, g 237, g 238, g 239, g 240, g 241, g 242, g 243, g 244, g 245, g 246, g 247, g 248, g 249, g 250, g 251, g 252, g 253, g 254, g 255, g 256, g 257, g 258, g 259, g 260, g 261, g 262, g 263, g 264, g 265, g 266, g 267, g 268, g 269, g 270, g 271, g 272, g 273, g 274, g 275, g 276, g 277, g 278, g 279, g 280, g 281, g 282, g 283, g 284, g 285, g 286, g 287, g 288, g 289, g 290, g 291, g 292, g 293, g 294, g 295, g 296, g 297, g 298, g 299, g 300, g 301, g 302, g 303, g 304, g 305, g 306, g 307, g 308, g 309, g 310, g 311, g 312, g 313, g 314, g 315, g 316, g 317, g 318, g 319, g 320, g 321, g 322, g 323, g 324, g 325, g 326, g 327, g 328, g 329, g 330, g 331, g 332, g 333, g 334, g 335, g 336, g 337, g 338, g 339, g 340, g 341, g 342, g 343, g 344, g 345, g 346, g 347, g 348, g 349, g 350, g 351, g 352, g 353, g 354, g 355, g 356, g 357, g 358, g 359, g 360, g 361, g 362, g 363, g 364, g 365, g 366, g 367, g 368, g 369, g 370, g 371, g 372, g 373, g 374, g 375, g 376, g 377, g 378, g 379, g 380, g 381, g 382, g 383, g 384, g 385, g 386, g 387, g 388, g 389, g 390, g 391, g 392, .int .i64 (m : Int), g 394, g 395, g 396, g 397, g 398, g 399, g 400, g 401, g 402, g 403, g 404, g 405, g 406, g 407, g 408, g 409, g 410, g 411, g 412, g 413, g 414, g 415, g 416, g 417, g 418, g 419, g 420, g 421, g 422, g 423, g 424, g 425, g 426, g 427, g 428, g 429, g 430, g 431, g 432, g 433, g 434, g 435, g 436, g 437, g 438, g 439, g 440, g 441, g 442, g 443, g 444, g 445, g 446, g 447, g 448, g 449, g 450, g 451, g 452, g 453, g 454, g 455, g 456, g 457, g 458, g 459, g 460, g 461, g 462, g 463, g 464, g 465, g 466, g 467, g 468, g 469, g 470, g 471, g 472, g 473, g 474, g 475, g 476, g 477, g 478, g 479, g 480, g 481, g 482, g 483, g 484, g 485, g 486, g 487, g 488, g 489, g 490, g 491, g 492, g 493, g 494, g 495, g 496, g 497, g 498, g 499, g 500, g 501, g 502, g 503, g 504, g 505, g 506, g 507, g 508, g 509, g 510, g 511], []⟩ (w.drewN dr) := by
  conv => arg 2; whnf
  have hs := h.env.small
  subst hn
  have Hall := Lib.hid hall
  clear hall
  have hmb : decide ((m : Int) < 2) = true := by simp; omega
  go_wp2_with fail
  refine (h.peekOk _ (h.low.trans (below_dn _ _ _)) (J + m) _ (by omega) (by omega)).mono ?_
  rintro e w' ⟨rfl, n1, rfl⟩
  rw [decide_eq_true (show i + (J + m) < s.size by omega)]
  go_wp2_with fail
  refine (h.peek _ (h.low.trans (below_dn _ _ _)) (J + m) _ (by omega) (by omega)).mono ?_
  rintro e w' ⟨rfl, n2, rfl⟩
  rw [show i + (J + m) = i + J + m by omega]
  go_wp2_with fail
  refine (IsOct_c _ _).mono ?_
  rintro e w' ⟨rfl, hw⟩
  subst hw
  rw [hc]
  go_wp2_with fail
  refine ⟨⟨rfl, rfl, rfl, rfl, rfl, rfl, rfl, rfl, rfl, rfl, rfl, rfl, rfl, m + 1, rfl, hm, ?_, _, rfl⟩, ?_⟩
  · intro k hk
    by_cases e : k = m
    · subst e; exact hc
    · exact Hall.out k (by omega)
  · show _ - ((m : Int) + 1).toNat < _
    omega
set_option maxHeartbeats 8000000 in
set_option maxRecDepth 1000000 in
theorem loopo_bad (g : Nat → Value) (s q name : ByteArray) (raw uni : Bool) (b f i j J B fu n : Nat) (d : Int) (v15 v22 : Value) (l : List UInt8) (x : LxS) (w w0 : World) (R0 : QRes) (dr m : Nat) (Q0 : Exit → Act → World → Prop) (h : QHead s q raw uni b f i B x w0 R0 j v15 l fu w) (hJ : i + J + n ≤ s.size) (hJ2 : 2 ≤ J) (hn : n = 2)
    (hm : m < n) (hc : octB (bt s (i + J + m)) = false) (hpan : ∀ a' w' ch, a'.defers = [] → Thrown B w0 (.panicked ch) w' → Q0 (.panic ch) a' w') :
    Code.wp Tryz.prog qLoopo (Exit.then (fun a' w' => LInvo s q name raw uni b i J n d v15 v22 w a' w' ∧ n - (intOf (sl a' 393)).toNat < n - m) Q0) ⟨#[.pointer (some ⟨b, 0, none⟩), .string q, .bool raw, .bool uni, .string name, .bool false, g 6, g 7, g 8, g 9, g 10, g 11, g 12, g 13, .int .i64 (J : Int), v15, .bool false, g 17, .int .u8 d, g 19, g 20, g 21, v22, g 23, g 24, g 25, g 26, g 27, g 28, g 29, g 30, g 31, g 32, g 33, g 34, g 35, g 36, g 37, g 38, g 39, g 40, g 41, g 42, g 43, g 44, g 45, g 46, g 47, g 48, g 49, g 50, g 51, g 52, g 53, g 54, g 55, g 56, g 57, g 58, g 59, g 60, g 61, g 62, g 63, g 64, g 65, g 66, g 67, g 68, g 69, g 70, g 71, g 72, g 73, g 74, g 75, g 76, g 77, g 78, g 79, g 80, g 81, g 82, g 83, g 84, g 85, g 86, g 87, g 88, g 89, g 90, g 91, g 92, g 93, g 94, g 95, g 96, g 97, g 98, g 99, g 100, g 101, g 102, g 103, g 104, g 105, g 106, g 107, g 108, g 109, g 110, g 111, g 112, g 113, g 114, g 115, g 116, g 117, g 118, g 119, g 120, g 121, g 122, g 123, g 124, g 125, g 126, g 127, g 128, g 129, g 130, g 131, g 132, g 133, g 134, g 135, g 136, g 137, g 138, g 139, g 140, g 141, g 142, g 143, g 144, g 145, g 146, g 147, g 148, g 149, g 150, g 151, g 152, g 153, g 154, g 155, g 156, g 157, g 158, g 159, g 160, g 161, g 162, g 163, g 164, g 165, g 166, g 167, g 168, g 169, g 170, g 171, g 172, g 173, g 174, g 175, g 176, g 177, g 178, g 179, g 180, g 181, g 182, g 183, g 184, g 185, g 186, g 187, g 188, g 189, g 190, g 191, g 192, g 193, g 194, g 195, g 196, g 197, g 198, g 199, g 200, g 201, g 202, g 203, g 204, g 205, g 206, g 207, g 208, g 209, g 210, g 211, g 212, g 213, g 214, g 215, g 216, g 217, g 218, g 219, g 220, g 221, g 222, g 223, g 224, g 225, g 226, g 227, g 228, g 229, g 230, g 231, g 232, g 233, g 234, g 235, g 236, g 237, g 238, g 239, g 240, g 241, g 242, g 243, g 244, g 245, g 246, g 247, g 248, g 249, g 250, g 251, g 252, g 253, g 254, g 255, g 256, g 257, g 258, g 259, g 260, g 261, g 262, g 263, g 264, g 265, g 266, g 267, g 268, g 269, g 270, g 271, g 272, g 273, g 274, g 275, g 276, g 277, g 278, g 279, g 280, g 281, g 282, g 283, g 284, g 285, g 286, g 287, g 288, g 289, g 290, g 291, g 292, g 293, g 294, g 295, g 296, g 297, g 298, g 299, g 300, g 301, g 302, g 303, g 304, g 305, g 306, g 307, g 308, g 309, g 310, g 311, g 312, g 313, g 314, g 315, g 316, g 317, g 318, g 319, g 320, g 321, g 322, g 323, g 324, g 325, g 326, g 327, g 328, g 329, g 330, g 331, g 332, g 333, g 334, g 335, g 336, g 337, g 338, g 339, g 340, g 341, g 342, g 343, g 344, g 345, g 346, g 347, g 348, g 349, g 350, g 351, g 352, g 353, g 354, g 355, g 356, g 357, g 358, g 359, g 360, g 361, g 362, g 363, g 364, g 365, g 366, g 367, g 368, g 369, g 370, g 371, g 372, g 373, g 374, g 375, g 376, g 377, g 378, g 379, g 380, g 381, g 382, g 383, g 384, g 385, g 386, g 387, g 388, g 389, g 390, g 391, g 392, .int .i64 (m : Int), g 394, g 395, g 396, g 397, g 398, g 399, g 400, g 401, g 402, g 403, g 404, g 405, g 406, g 407, g 408, g 409, g 410, g 411, g 412, g 413, g 414, g 415, g 416, g 417, g 418, g 419, g 420, g 421, g 422, g 423, g 424, g 425, g 426, g 427, g 428, g 429, g 430, g 431, g 432, g 433, g 434, g 435, g 436, g 437, g 438, g 439, g 440, g 441, g 442, g 443, g 444, g 445, g 446, g 447, g 448, g 449, g 450, g 451, g 452, g 453, g 454, g 455, g 456, g 457, g 458, g 459, g 460, g 461, g 462, g 463, g 464, g 465, g 466, g 467, g 468, g 469, g 470, g 471, g 472, g 473, g 474, g 475, g 476, g 477, g 478, g 479, g 480, g 481, g 482, g 483, g 484, g 485, g 486, g 487, g 488, g 489, g 490, g 491, g 492, g 493, g 494, g 495, g 496, g 497, g 498, g 499, g 500, g 501, g 502, g 503, g 504, g 505, g 506, g 507, g 508, g 509, g 510, g 511], []⟩ (w.drewN dr) := by
  conv => arg 2; whnf
  have hs := h.env.small
  subst hn
  have hmb : decide ((m : Int) < 2) = true := by simp; omega
  go_wp2_with fail
  refine (h.peekOk _ (h.low.trans (below_dn _ _ _)) (J + m) _ (by omega) (by omega)).mono ?_
  rintro e w' ⟨rfl, n1, rfl⟩
  rw [decide_eq_true (show i + (J + m) < s.size by omega)]
  go_wp2_with fail
  refine (h.peek _ (h.low.trans (below_dn _ _ _)) (J + m) _ (by omega) (by omega)).mono ?_
  rintro e w' ⟨rfl, n2, rfl⟩
  rw [show i + (J + m) = i + J + m by omega]
  go_wp2_with fail
  refine (IsOct_c _ _).mono ?_
  rintro e w' ⟨rfl, hw⟩
  subst hw
  rw [hc]
  go_wp2_with fail
  refine wp_region_still_tail 17 (by kernel_rfl) (by kernel_rfl) ?_
  simp only [List.take_succ_cons, List.take_zero, List.drop_succ_cons, List.drop_zero]
  have hV := (h.low.trans (below_dn _ w (dr + n1 + n2))).trans (drew_below w0.heap.size (w.drewN (dr + n1 + n2)))
  generalize ({ heap := (w.drewN (dr + n1 + n2)).heap, tape := (w.drewN (dr + n1 + n2)).tape, drawn := (w.drewN (dr + n1 + n2)).drawn + 1, os := (w.drewN (dr + n1 + n2)).os, output := (w.drewN (dr + n1 + n2)).output } : World) = V at hV ⊢
  have c9 := h.cell9w V hV
  repeat still_step
  refine wpStill_nil ?_
  go_wp2_with fail
  refine (h.panics V hV _ (i + J - 2) (i + J + m + 1) _ _ (by omega) (by omega) (by omega) (by omega)).mono ?_
  rintro e w1 k
  obtain ⟨v, p, rfl, herr, hlow⟩ := k
  exact hpan _ _ _ rfl ⟨v, p, rfl, herr, hlow⟩
set_option maxHeartbeats 8000000 in
set_option maxRecDepth 1000000 in
theorem loopo_end (g : Nat → Value) (s q name : ByteArray) (raw uni : Bool) (b f i j J B fu n : Nat) (d : Int) (v15 v22 : Value) (l : List UInt8) (x : LxS) (w w0 : World) (R0 : QRes) (dr m : Nat) (Q0 : Exit → Act → World → Prop) (h : QHead s q raw uni b f i B x w0 R0 j v15 l fu w) (hJ : i + J + n ≤ s.size) (hJ2 : 2 ≤ J) (hn : n = 2)
    (hm : ¬ m < n) (hexit : ∀ a' w', LInvo s q name raw uni b i J n d v15 v22 w a' w' → Q0 (.exit 7) a' w') (hmn : m ≤ n) (hall : ∀ k, k < m → octB (bt s (i + J + k)) = true) :
    Code.wp Tryz.prog qLoopo (Exit.then (fun a' w' => LInvo s q name raw uni b i J n d v15 v22 w a' w' ∧ n - (intOf (sl a' 393)).toNat < n - m) Q0) ⟨#[.pointer (some ⟨b, 0, none⟩), .string q, .bool raw, .bool uni, .string name, .bool false, g 6, g 7, g 8, g 9, g 10, g 11, g 12, g 13, .int .i64 (J : Int), v15, .bool false, g 17, .int .u8 d, g 19, g 20, g 21, v22, g 23, g 24, g 25, g 26, g 27, g 28, g 29, g 30, g 31, g 32, g 33, g 34, g 35, g 36, g 37, g 38, g 39, g 40, g 41, g 42, g 43, g 44, g 45, g 46, g 47, g 48, g 49, g 50, g 51, g 52, g 53, g 54, g 55, g 56, g 57, g 58, g 59, g 60, g 61, g 62, g 63, g 64, g 65, g 66, g 67, g 68, g 69, g 70, g 71, g 72, g 73, g 74, g 75, g 76, g 77, g 78, g 79, g 80, g 81, g 82, g 83, g 84, g 85, g 86, g 87, g 88, g 89, g 90, g 91, g 92, g 93, g 94, g 95, g 96, g 97, g 98, g 99, g 100, g 101, g 102, g 103, g 104, g 105, g 106, g 107, g 108, g 109, g 110, g 111, g 112, g 113, g 114, g 115, g 116, g 117, g 118, g 119, g 120, g 121, g 122, g 123, g 124, g 125, g 126, g 127, g 128, g 129, g 130, g 131, g 132, g 133, g 134, g 135, g 136, g 137, g 138, g 139, g 140, g 141, g 142, g 143, g 144, g 145, g 146, g 147, g 148, g 149, g 150, g 151, g 152, g 153, g 154, g 155, g 156, g 157, g 158, g 159, g 160, g 161, g 162, g 163, g 164, g 165, g 166, g 167, g 168, g 169, g 170, g 171, g 172, g 173, g 174, g 175, g 176, g 177, g 178, g 179, g 180, g 181, g 182, g 183, g 184, g 185, g 186, g 187, g 188, g 189, g 190, g 191, g 192, g 193, g 194, g 195, g 196, g 197, g 198, g 199, g 200, g 201, g 202, g 203, g 204, g 205, g 206, g 207, g 208, g 209, g 210, g 211, g 212, g 213, g 214, g 215, g 216, g 217, g 218, g 219, g 220, g 221, g 222, g 223, g 224, g 225, g 226, g 227, g 228, g 229, g 230, g 231, g 232, g 233, g 234, g 235, g 236, g 237, g 238, g 239, g 240, g 241, g 242, g 243, g 244, g 245, g 246, g 247, g 248, g 249, g 250, g 251, g 252, g 253, g 254, g 255, g 256, g 257, g 258, g 259, g 260, g 261, g 262, g 263, g 264, g 265, g 266, g 267, g 268, g 269, g 270, g 271, g 272, g 273, g 274, g 275, g 276, g 277, g 278, g 279, g 280, g 281, g 282, g 283, g 284, g 285, g 286, g 287, g 288, g 289, g 290, g 291, g 292, g 293, g 294, g 295, g 296, g 297, g 298, g 299, g 300, g 301, g 302, g 303, g 304, g 305, g 306, g 307, g 308, g 309, g 310, g 311, g 312, g 313, g 314, g 315, g 316, g 317, g 318, g 319, g 320, g 321, g 322, g 323, g 324, g 325, g 326, g 327, g 328, g 329, g 330, g 331, g 332, g 333, g 334, g 335, g 336, g 337, g 338, g 339, g 340, g 341, g 342, g 343, g 344, g 345, g 346, g 347, g 348, g 349, g 350, g 351, g 352, g 353, g 354, g 355, g 356, g 357, g 358, g 359, g 360, g 361, g 362, g 363, g 364, g 365, g 366, g 367, g 368, g 369, g 370, g 371, g 372, g 373, g 374, g 375, g 376, g 377, g 378, g 379, g 380, g 381, g 382, g 383, g 384, g 385, g 386, g 387, g 388, g 389, g 390, g 391, g 392, .int .i64 (m : Int), g 394, g 395, g 396, g 397, g 398, g 399, g 400, g 401, g 402, g 403, g 404, g 405, g 406, g 407, g 408, g 409, g 410, g 411, g 412, g 413, g 414, g 415, g 416, g 417, g 418, g 419, g 420, g 421, g 422, g 423, g 424, g 425, g 426, g 427, g 428, g 429, g 430, g 431, g 432, g 433, g 434, g 435, g 436, g 437, g 438, g 439, g 440, g 441, g 442, g 443, g 444, g 445, g 446, g 447, g 448, g 449, g 450, g 451, g 452, g 453, g 454, g 455, g 456, g 457, g 458, g 459, g 460, g 461, g 462, g 463, g 464, g 465, g 466, g 467, g 468, g 469, g 470, g 471, g 472, g 473, g 474, g 475, g 476, g 477, g 478, g 479, g 480, g 481, g 482, g 483, g 484, g 485, g 486, g 487, g 488, g 489, g 490, g 491, g 492, g 493, g 494, g 495, g 496, g 497, g 498, g 499, g 500, g 501, g 502, g 503, g 504, g 505, g 506, g 507, g 508, g 509, g 510, g 511], []⟩ (w.drewN dr) := by
  conv => arg 2; whnf
  have hs := h.env.small
  subst hn
  have hmb : decide ((m : Int) < 2) = false := by simp; omega
  have Hx := Lib.hid hexit
  have Hall := Lib.hid hall
  clear hexit hall
  go_wp2_with fail
  exact Hx.out _ _ ⟨rfl, rfl, rfl, rfl, rfl, rfl, rfl, rfl, rfl, rfl, rfl, rfl, rfl, m, rfl, hmn, Hall.out, dr, rfl⟩
end Go.Proofs.YtmkkeacbabmaeaaGreatDoor
namespace Go.Proofs.YtmkkeacbabmaeaaGreatDoor
open Go.PlainAid

theorem bt_extract (s : ByteArray) (a e k : Nat) (h : a + k < e) (he : e ≤ s.size) : bt (s.extract a e) k = bt s (a + k) := by
  have hz : (s.extract a e).size = e - a := by rw [ByteArray.size_extract]; omega
  have h1 : k < (s.extract a e).size := by omega
  have h2 : a + k < s.size := by omega
  rw [← get_bt _ k h1, ← get_bt s (a + k) h2, ByteArray.getElem_extract]

theorem hexVal_part (s : ByteArray) (a e : Nat) (he : e ≤ s.size) : ∀ (n k : Nat) (v : Int), a + k + n ≤ e → hexVal (s.extract a e) n k v = hexVal s n (a + k) v
  | 0, _, _, _ => rfl
  | n + 1, k, v, h => by
    rw [hexVal, hexVal, bt_extract s a e k (by omega) he]
    split
    · exact hexVal_part s a e he n (k + 1) _ (by omega)
    · rfl
theorem octVal_part (s : ByteArray) (a e : Nat) (he : e ≤ s.size) : ∀ (n k : Nat) (v : Int), a + k + n ≤ e → octVal (s.extract a e) n k v = octVal s n (a + k) v
  | 0, _, _, _ => rfl
  | n + 1, k, v, h => by
    rw [octVal, octVal, bt_extract s a e k (by omega) he]
    split
    · exact octVal_part s a e he n (k + 1) _ (by omega)
    · rfl
theorem hexVal_good (s : ByteArray) : ∀ (n a m : Nat) (v : Int), (∀ k, k < n → hexB (bt s (a + k)) = true) → 0 ≤ v → hexBd m v → ∃ u, hexVal s n a v = some u ∧ 0 ≤ u ∧ hexBd (m + n) u
  | 0, _, _, v, _, h0, hb => ⟨v, rfl, h0, hb⟩
  | n + 1, a, m, v, h, h0, hb => by
    have hd : 0 ≤ hexV (bt s a) := of_decide_eq_true (h 0 (by omega))
    rw [hexVal, if_pos hd]
    have hle := hexV_le (bt s a)
    obtain ⟨u, hu, hu0, hub⟩ := hexVal_good s n (a + 1) (m + 1) (16 * v + hexV (bt s a)) (fun k hk => by have := h (k + 1) (by omega); rwa [show a + 1 + k = a + (k + 1) by omega]) (by omega) (hexBd_step hb hle)
    exact ⟨u, hu, hu0, by rw [show m + (n + 1) = m + 1 + n by omega]; exact hub⟩
theorem hexVal_bad (s : ByteArray) : ∀ (n a : Nat) (v : Int), (∃ k, k < n ∧ hexB (bt s (a + k)) = false) → hexVal s n a v = none
  | 0, _, _, h => by obtain ⟨k, hk, _⟩ := h; omega
  | n + 1, a, v, h => by
    rw [hexVal]
    split
    · rename_i hd
      refine hexVal_bad s n (a + 1) _ ?_
      obtain ⟨k, hk, hb⟩ := h
      cases k with
      | zero => unfold hexB at hb; rw [Nat.add_zero, decide_eq_true hd] at hb; cases hb
      | succ k => exact ⟨k, by omega, by rw [show a + 1 + k = a + (k + 1) by omega]; exact hb⟩
    · rfl
theorem octVal_good (s : ByteArray) : ∀ (n a : Nat) (v m : Int), (∀ k, k < n → octB (bt s (a + k)) = true) → 0 ≤ v → v ≤ m → ∃ u, octVal s n a v = some u ∧ 0 ≤ u ∧ u + 1 ≤ 8 ^ n * (m + 1)
  | 0, _, v, m, _, h0, hb => ⟨v, rfl, h0, by simp; omega⟩
  | n + 1, a, v, m, h, h0, hb => by
    have hd : 48 ≤ bt s a ∧ bt s a ≤ 55 := of_decide_eq_true (h 0 (by omega))
    rw [octVal, if_pos hd]
    obtain ⟨u, hu, hu0, hub⟩ := octVal_good s n (a + 1) (8 * v + (bt s a - 48)) (8 * m + 7) (fun k hk => by have := h (k + 1) (by omega); rwa [show a + 1 + k = a + (k + 1) by omega]) (by omega) (by omega)
    refine ⟨u, hu, hu0, ?_⟩
    rw [Int.pow_succ, Int.mul_assoc]
    rw [show (8 : Int) * (m + 1) = 8 * m + 7 + 1 by omega]
    exact hub
theorem octVal_bad (s : ByteArray) : ∀ (n a : Nat) (v : Int), (∃ k, k < n ∧ octB (bt s (a + k)) = false) → octVal s n a v = none
  | 0, _, _, h => by obtain ⟨k, hk, _⟩ := h; omega
  | n + 1, a, v, h => by
    rw [octVal]
    split
    · rename_i hd
      refine octVal_bad s n (a + 1) _ ?_
      obtain ⟨k, hk, hb⟩ := h
      cases k with
      | zero => unfold octB at hb; rw [Nat.add_zero, decide_eq_true hd] at hb; cases hb
      | succ k => exact ⟨k, by omega, by rw [show a + 1 + k = a + (k + 1) by omega]; exact hb⟩
    · rfl
end Go.Proofs.YtmkkeacbabmaeaaGreatDoor
namespace Go.Proofs.YtmkkeacbabmaeaaGreatDoor
open Go.PlainAid

section
variable {s : ByteArray} {k : Nat} {bytes : Bool} {d v : Int}
theorem escHex_some {n : Nat} {p : List UInt8} (h : k + 2 + n ≤ s.size) (hv : hexVal s n (k + 2) 0 = some v) (hp : hexPart n v = some p) : escHex s k n = some (p, k + 2 + n) := by
  unfold escHex
  rw [if_pos h, hv, Option.bind_some, hp]
  rfl
theorem escHex_none {n : Nat} (hv : hexVal s n (k + 2) 0 = none) : escHex s k n = none := by
  unfold escHex
  rw [hv]
  split <;> rfl
theorem escHex_part {n : Nat} (hv : hexVal s n (k + 2) 0 = some v) (hp : hexPart n v = none) : escHex s k n = none := by
  unfold escHex
  rw [hv, Option.bind_some, hp]
  split <;> rfl
theorem escOf_digits {n : Nat} (h10 : k + 10 ≤ s.size) (hd : bt s (k + 1) = d) (hn : escDigits d bytes = some n) (hs : simpleEsc d = none) (ho : ¬ (48 ≤ d ∧ d ≤ 51)) : escOf s k bytes = escHex s k n := by
  subst hd
  exact escOf_hex (by omega) hs ho hn
theorem escOf_none (h10 : k + 10 ≤ s.size) (hd : bt s (k + 1) = d) (hn : escDigits d bytes = none) (hs : simpleEsc d = none) (ho : ¬ (48 ≤ d ∧ d ≤ 51)) : escOf s k bytes = none := by
  subst hd
  exact escOf_no (by omega) hs ho hn
theorem escOf_octal (h10 : k + 10 ≤ s.size) (hd : bt s (k + 1) = d) (hs : simpleEsc d = none) (ho : 48 ≤ d ∧ d ≤ 51) : escOf s k bytes = (octVal s 3 (k + 1) 0).map fun v => ([asB (v % 256)], k + 4) := by
  subst hd
  rw [escOf_oct (by omega) hs ho]
  unfold escOct
  rw [if_pos (by omega)]
theorem hexPart_two : hexPart 2 v = some [asB (v % 256)] := by unfold hexPart; rw [if_pos rfl]
theorem hexPart_rune {n : Nat} (hn : n ≠ 2) (h : ¬ (1114111 < v ∨ (55296 ≤ v ∧ v < 57344))) : hexPart n v = some (Utf8.encode v).data.toList := by unfold hexPart; rw [if_neg hn, if_neg h]
theorem hexPart_bad {n : Nat} (hn : n ≠ 2) (h : 1114111 < v ∨ (55296 ≤ v ∧ v < 57344)) : hexPart n v = none := by unfold hexPart; rw [if_neg hn, if_pos h]
end
end Go.Proofs.YtmkkeacbabmaeaaGreatDoor
