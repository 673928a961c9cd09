/- A round of the loop over a literal: faults. No condition. · A round of the loop over a literal. No condition. · The parser's literals are the reference's. Condition: the text is at most 4096 bytes long, of the bytes that the reference speaks of, no backslash near its end or ahead of a line feed; the table of powers holds what it was laid with. · The parser's four kinds of literals are the reference's. No condition but the ones it names. · The loops over a name. No condition. · The loop over the letters ahead of a quotation mark, round by round. No condition. -/
import Derived.Test.YtmkkeacbabmaeaaGreatDoorM05
import Derived.StillTailTactics
import Derived.Test.YtmkkeacbabmaeaaGreatDoorM06
import Derived.Test.YtmkkeacbabmaeaaGreatDoorM07
import Derived.Test.YtmkkeacbabmaeaaGreatDoorM08
namespace Go.Proofs.YtmkkeacbabmaeaaGreatDoor
open Go.RowKit Go.PlainAid

set_option maxHeartbeats 8000000 in
set_option maxRecDepth 1000000 in
theorem q_b117 (g : Nat → Value) (s q name : ByteArray) (raw uni : Bool) (b f i j B fu : Nat) (v15 : Value) (l : List UInt8) (x : LxS) (w w0 : World) (R0 : QRes) (Q0 : Exit → Act → World → Prop) (h : QHead s q raw uni b f i B x w0 R0 j v15 l fu w)
    (huni : uni = false) (hraw : raw = false) (hlt : i + j < s.size) (hne : startsB s (i + j) q = false) (h92 : bt s (i + j) = 92) (hd : bt s (i + j + 1) = 117) (hpan : ∀ a' w' ch, a'.defers = [] → Thrown B w0 (.panicked ch) w' → Q0 (.panic ch) a' w') :
    Code.wp Tryz.prog qBody (Exit.then (fun a' w' => QInv s q name raw uni b f i B x w0 R0 a' w' ∧ qMu s i a' < s.size - i - j) Q0) ⟨#[.pointer (some ⟨b, 0, none⟩), .string q, .bool raw, .bool uni, .string name, .bool false, g 6, g 7, g 8, g 9, g 10, g 11, g 12, g 13, .int .i64 (j : Int), v15, .bool false, g 17, g 18, g 19, g 20, g 21, g 22, g 23, g 24, g 25, g 26, g 27, g 28, g 29, g 30, g 31, g 32, g 33, g 34, g 35, g 36, g 37, g 38, g 39, g 40, g 41, g 42, g 43, g 44, g 45, g 46, g 47, g 48, g 49, g 50, g 51, g 52, g 53, g 54, g 55, g 56, g 57, g 58, g 59, g 60, g 61, g 62, g 63, g 64, g 65, g 66, g 67, g 68, g 69, g 70, g 71, g 72, g 73, g 74, g 75, g 76, g 77, g 78, g 79, g 80, g 81, g 82, g 83, g 84, g 85, g 86, g 87, g 88, g 89, g 90, g 91, g 92, g 93, g 94, g 95, g 96, g 97, g 98, g 99, g 100, g 101, g 102, g 103, g 104, g 105, g 106, g 107, g 108, g 109, g 110, g 111, g 112, g 113, g 114, g 115, g 116, g 117, g 118, g 119, g 120, g 121, g 122, g 123, g 124, g 125, g 126, g 127, g 128, g 129, g 130, g 131, g 132, g 133, g 134, g 135, g 136, g 137, g 138, g 139, g 140, g 141, g 142, g 143, g 144, g 145, g 146, g 147, g 148, g 149, g 150, g 151, g 152, g 153, g 154, g 155, g 156, g 157, g 158, g 159, g 160, g 161, g 162, g 163, g 164, g 165, g 166, g 167, g 168, g 169, g 170, g 171, g 172, g 173, g 174, g 175, g 176, g 177, g 178, g 179, g 180, g 181, g 182, g 183, g 184, g 185, g 186, g 187, g 188, g 189, g 190, g 191, g 192, g 193, g 194, g 195, g 196, g 197, g 198, g 199, g 200, g 201, g 202, g 203, g 204, g 205, g 206, g 207, g 208, g 209, g 210, g 211, g 212, g 213, g 214, g 215, g 216, g 217, g 218, g 219, g 220, g 221, g 222, g 223, g 224, g 225, g 226, g 227, g 228, g 229, g 230, g 231, g 232, g 233, g 234, g 235, g 236, g 237, g 238, g 239, g 240, g 241, g 242, g 243, g 244, g 245, g 246, g 247, g 248, g 249, g 250, g 251, g 252, g 253, g 254, g 255, g 256, g 257, g 258, g 259, g 260, g 261, g 262, g 263, g 264, g 265, g 266, g 267, g 268, g 269, g 270, g 271, g 272, g 273, g 274, g 275, g 276, g 277, g 278, g 279, g 280, g 281, g 282, g 283, g 284, g 285, g 286, g 287, g 288, g 289, g 290, g 291, g 292, g 293, g 294, g 295, g 296, g 297, g 298, g 299, g 300, g 301, g 302, g 303, g 304, g 305, g 306, g 307, g 308, g 309, g 310, g 311, g 312, g 313, g 314, g 315, g 316, g 317, g 318, g 319, g 320, g 321, g 322, g 323, g 324, g 325, g 326, g 327, g 328, g 329, g 330, g 331, g 332, g 333, g 334, g 335, g 336, g 337, g 338, g 339, g 340, g 341, g 342, g 343, g 344, g 345, g 346, g 347, g 348, g 349, g 350, g 351, g 352, g 353, g 354, g 355, g 356, g 357, g 358, g 359, g 360, g 361, g 362, g 363, g 364, g 365, g 366, g 367, g 368, g 369, g 370, g 371, g 372, g 373, g 374, g 375, g 376, g 377, g 378, g 379, g 380, g 381, g 382, g 383, g 384, g 385, g 386, g 387, g 388, g 389, g 390, g 391, g 392, g 393, g 394, g 395, g 396, g 397, g 398, g 399, g 400, g 401, g 402, g 403, g 404, g 405, g 406, g 407, g 408, g 409, g 410, g 411, g 412, g 413, g 414, g 415, g 416, g 417, g 418, g 419, g 420, g 421, g 422, g 423, g 424, g 425, g 426, g 427, g 428, g 429, g 430, g 431, g 432, g 433, g 434, g 435, g 436, g 437, g 438, g 439, g 440, g 441, g 442, g 443, g 444, g 445, g 446, g 447, g 448, g 449, g 450, g 451, g 452, g 453, g 454, g 455, g 456, g 457, g 458, g 459, g 460, g 461, g 462, g 463, g 464, g 465, g 466, g 467, g 468, g 469, g 470, g 471, g 472, g 473, g 474, g 475, g 476, g 477, g 478, g 479, g 480, g 481, g 482, g 483, g 484, g 485, g 486, g 487, g 488, g 489, g 490, g 491, g 492, g 493, g 494, g 495, g 496, g 497, g 498, g 499, g 500, g 501, g 502, g 503, g 504, g 505, g 506, g 507, g 508, g 509, g 510, g 511], []⟩ w := by
  conv => arg 2; whnf
  have hs := h.env.small
  have hj := h.le
  have hq3 : 1 ≤ q.size ∧ q.size ≤ 3 := by have := h.q13; omega
  obtain ⟨he10, hnl⟩ := h.esc _ hlt h92
  have hst := (starts_eq s q (i + j) hj).trans hne
  subst hraw
  subst huni
  clear hnl
  go_wp2_with fail
  refine (h.peekOk _ h.low j _ rfl (by omega)).mono ?_
  rintro e w' ⟨rfl, n1, rfl⟩
  rw [decide_eq_true hlt]
  go_wp2_with fail
  refine (h.slice _ (h.low.trans (below_dn _ _ _)) j (j + q.size) _ _ rfl (by omega) (by omega) (by omega) (by omega)).mono ?_
  rintro e w' ⟨rfl, n2, rfl⟩
  rw [show i + (j + q.size) = i + j + q.size by omega]
  go_wp2_with fail
  refine (h.peek _ (h.low.trans (below_dn _ _ _)) j _ rfl hlt).mono ?_
  rintro e w' ⟨rfl, n3, rfl⟩
  rw [h92]
  clear h92
  go_wp2_with fail
  refine (h.peekOk _ (h.low.trans (below_dn _ _ _)) (j + 1) _ (by omega) (by omega)).mono ?_
  rintro e w' ⟨rfl, n4, rfl⟩
  rw [decide_eq_true (show i + (j + 1) < s.size by omega)]
  go_wp2_with fail
  refine (h.peek _ (h.low.trans (below_dn _ _ _)) (j + 1) _ (by omega) (by omega)).mono ?_
  rintro e w' ⟨rfl, n5, rfl⟩
  rw [show bt s (i + (j + 1)) = 117 from hd]
  clear hd
  go_wp2_with fail
  refine wp_region_still_tail 14 (by kernel_rfl) (by kernel_rfl) ?_
  simp only [List.take_succ_cons, List.take_zero, List.drop_succ_cons, List.drop_zero]
  have hV := (h.low.trans (below_dn _ w (n1 + n2 + n3 + n4 + n5))).trans (drew_below w0.heap.size (w.drewN (n1 + n2 + n3 + n4 + n5)))
  generalize ({ heap := (w.drewN (n1 + n2 + n3 + n4 + n5)).heap, tape := (w.drewN (n1 + n2 + n3 + n4 + n5)).tape, drawn := (w.drewN (n1 + n2 + n3 + n4 + n5)).drawn + 1, os := (w.drewN (n1 + n2 + n3 + n4 + n5)).os, output := (w.drewN (n1 + n2 + n3 + n4 + n5)).output } : World) = V at hV ⊢
  have c9 := h.cell9w V hV
  repeat still_step
  refine wpStill_nil ?_
  go_wp2_with fail
  refine (h.panics V hV _ (i + j) (i + (j + 2)) _ _ (by omega) (by omega) (by omega) (by omega)).mono ?_
  rintro e w1 k
  obtain ⟨v, p, rfl, herr, hlow⟩ := k
  exact hpan _ _ _ rfl ⟨v, p, rfl, herr, hlow⟩
set_option maxHeartbeats 8000000 in
set_option maxRecDepth 1000000 in
theorem q_b85 (g : Nat → Value) (s q name : ByteArray) (raw uni : Bool) (b f i j B fu : Nat) (v15 : Value) (l : List UInt8) (x : LxS) (w w0 : World) (R0 : QRes) (Q0 : Exit → Act → World → Prop) (h : QHead s q raw uni b f i B x w0 R0 j v15 l fu w)
    (huni : uni = false) (hraw : raw = false) (hlt : i + j < s.size) (hne : startsB s (i + j) q = false) (h92 : bt s (i + j) = 92) (hd : bt s (i + j + 1) = 85) (hpan : ∀ a' w' ch, a'.defers = [] → Thrown B w0 (.panicked ch) w' → Q0 (.panic ch) a' w') :
    Code.wp Tryz.prog qBody (Exit.then (fun a' w' => QInv s q name raw uni b f i B x w0 R0 a' w' ∧ qMu s i a' < s.size - i - j) Q0) ⟨#[.pointer (some ⟨b, 0, none⟩), .string q, .bool raw, .bool uni, .string name, .bool false, g 6, g 7, g 8, g 9, g 10, g 11, g 12, g 13, .int .i64 (j : Int), v15, .bool false, g 17, g 18, g 19, g 20, g 21, g 22, g 23, g 24, g 25, g 26, g 27, g 28, g 29, g 30, g 31, g 32, g 33, g 34, g 35, g 36, g 37, g 38, g 39, g 40, g 41, g 42, g 43, g 44, g 45, g 46, g 47, g 48, g 49, g 50, g 51, g 52, g 53, g 54, g 55, g 56, g 57, g 58, g 59, g 60, g 61, g 62, g 63, g 64, g 65, g 66, g 67, g 68, g 69, g 70, g 71, g 72, g 73, g 74, g 75, g 76, g 77, g 78, g 79, g 80, g 81, g 82, g 83, g 84, g 85, g 86, g 87, g 88, g 89, g 90, g 91, g 92, g 93, g 94, g 95, g 96, g 97, g 98, g 99, g 100, g 101, g 102, g 103, g 104, g 105, g 106, g 107, g 108, g 109, g 110, g 111, g 112, g 113, g 114, g 115, g 116, g 117, g 118, g 119, g 120, g 121, g 122, g 123, g 124, g 125, g 126, g 127, g 128, g 129, g 130, g 131, g 132, g 133, g 134, g 135, g 136, g 137, g 138, g 139, g 140, g 141, g 142, g 143, g 144, g 145, g 146, g 147, g 148, g 149, g 150, g 151, g 152, g 153, g 154, g 155, g 156, g 157, g 158, g 159, g 160, g 161, g 162, g 163, g 164, g 165, g 166, g 167, g 168, g 169, g 170, g 171, g 172, g 173, g 174, g 175, g 176, g 177, g 178, g 179, g 180, g 181, g 182, g 183, g 184, g 185, g 186, g 187, g 188, g 189, g 190, g 191, g 192, g 193, g 194, g 195, g 196, g 197, g 198, g 199, g 200, g 201, g 202, g 203, g 204, g 205, g 206, g 207, g 208, g 209, g 210, g 211, g 212, g 213, g 214, g 215, g 216, g 217, g 218, g 219, g 220, g 221, g 222, g 223, g 224, g 225, g 226, g 227, g 228, g 229, g 230, g 231, g 232, g 233, g 234, g 235, g 236, g 237, g 238, g 239, g 240, g 241, g 242, g 243, g 244, g 245, g 246, g 247, g 248, g 249, g 250, g 251, g 252, g 253, g 254, g 255, g 256, g 257, g 258, g 259, g 260, g 261, g 262, g 263, g 264, g 265, g 266, g 267, g 268, g 269, g 270, g 271, g 272, g 273, g 274, g 275, g 276, g 277, g 278, g 279, g 280, g 281, g 282, g 283, g 284, g 285, g 286, g 287, g 288, g 289, g 290, g 291, g 292, g 293, g 294, g 295, g 296, g 297, g 298, g 299, g 300, g 301, g 302, g 303, g 304, g 305, g 306, g 307, g 308, g 309, g 310, g 311, g 312, g 313, g 314, g 315, g 316, g 317, g 318, g 319, g 320, g 321, g 322, g 323, g 324, g 325, g 326, g 327, g 328, g 329, g 330, g 331, g 332, g 333, g 334, g 335, g 336, g 337, g 338, g 339, g 340, g 341, g 342, g 343, g 344, g 345, g 346, g 347, g 348, g 349, g 350, g 351, g 352, g 353, g 354, g 355, g 356, g 357, g 358, g 359, g 360, g 361, g 362, g 363, g 364, g 365, g 366, g 367, g 368, g 369, g 370, g 371, g 372, g 373, g 374, g 375, g 376, g 377, g 378, g 379, g 380, g 381, g 382, g 383, g 384, g 385, g 386, g 387, g 388, g 389, g 390, g 391, g 392, g 393, g 394, g 395, g 396, g 397, g 398, g 399, g 400, g 401, g 402, g 403, g 404, g 405, g 406, g 407, g 408, g 409, g 410, g 411, g 412, g 413, g 414, g 415, g 416, g 417, g 418, g 419, g 420, g 421, g 422, g 423, g 424, g 425, g 426, g 427, g 428, g 429, g 430, g 431, g 432, g 433, g 434, g 435, g 436, g 437, g 438, g 439, g 440, g 441, g 442, g 443, g 444, g 445, g 446, g 447, g 448, g 449, g 450, g 451, g 452, g 453, g 454, g 455, g 456, g 457, g 458, g 459, g 460, g 461, g 462, g 463, g 464, g 465, g 466, g 467, g 468, g 469, g 470, g 471, g 472, g 473, g 474, g 475, g 476, g 477, g 478, g 479, g 480, g 481, g 482, g 483, g 484, g 485, g 486, g 487, g 488, g 489, g 490, g 491, g 492, g 493, g 494, g 495, g 496, g 497, g 498, g 499, g 500, g 501, g 502, g 503, g 504, g 505, g 506, g 507, g 508, g 509, g 510, g 511], []⟩ w := by
  conv => arg 2; whnf
  have hs := h.env.small
  have hj := h.le
  have hq3 : 1 ≤ q.size ∧ q.size ≤ 3 := by have := h.q13; omega
  obtain ⟨he10, hnl⟩ := h.esc _ hlt h92
  have hst := (starts_eq s q (i + j) hj).trans hne
  subst hraw
  subst huni
  clear hnl
  go_wp2_with fail
  refine (h.peekOk _ h.low j _ rfl (by omega)).mono ?_
  rintro e w' ⟨rfl, n1, rfl⟩
  rw [decide_eq_true hlt]
  go_wp2_with fail
  refine (h.slice _ (h.low.trans (below_dn _ _ _)) j (j + q.size) _ _ rfl (by omega) (by omega) (by omega) (by omega)).mono ?_
  rintro e w' ⟨rfl, n2, rfl⟩
  rw [show i + (j + q.size) = i + j + q.size by omega]
  go_wp2_with fail
  refine (h.peek _ (h.low.trans (below_dn _ _ _)) j _ rfl hlt).mono ?_
  rintro e w' ⟨rfl, n3, rfl⟩
  rw [h92]
  clear h92
  go_wp2_with fail
  refine (h.peekOk _ (h.low.trans (below_dn _ _ _)) (j + 1) _ (by omega) (by omega)).mono ?_
  rintro e w' ⟨rfl, n4, rfl⟩
  rw [decide_eq_true (show i + (j + 1) < s.size by omega)]
  go_wp2_with fail
  refine (h.peek _ (h.low.trans (below_dn _ _ _)) (j + 1) _ (by omega) (by omega)).mono ?_
  rintro e w' ⟨rfl, n5, rfl⟩
  rw [show bt s (i + (j + 1)) = 85 from hd]
  clear hd
  go_wp2_with fail
  refine wp_region_still_tail 14 (by kernel_rfl) (by kernel_rfl) ?_
  simp only [List.take_succ_cons, List.take_zero, List.drop_succ_cons, List.drop_zero]
  have hV := (h.low.trans (below_dn _ w (n1 + n2 + n3 + n4 + n5))).trans (drew_below w0.heap.size (w.drewN (n1 + n2 + n3 + n4 + n5)))
  generalize ({ heap := (w.drewN (n1 + n2 + n3 + n4 + n5)).heap, tape := (w.drewN (n1 + n2 + n3 + n4 + n5)).tape, drawn := (w.drewN (n1 + n2 + n3 + n4 + n5)).drawn + 1, os := (w.drewN (n1 + n2 + n3 + n4 + n5)).os, output := (w.drewN (n1 + n2 + n3 + n4 + n5)).output } : World) = V at hV ⊢
  have c9 := h.cell9w V hV
  repeat still_step
  refine wpStill_nil ?_
  go_wp2_with fail
  refine (h.panics V hV _ (i + j) (i + (j + 2)) _ _ (by omega) (by omega) (by omega) (by omega)).mono ?_
  rintro e w1 k
  obtain ⟨v, p, rfl, herr, hlow⟩ := k
  exact hpan _ _ _ rfl ⟨v, p, rfl, herr, hlow⟩
set_option maxHeartbeats 8000000 in
set_option maxRecDepth 1000000 in
theorem q_other (g : Nat → Value) (s q name : ByteArray) (raw uni : Bool) (b f i j B fu : Nat) (v15 : Value) (l : List UInt8) (x : LxS) (w w0 : World) (R0 : QRes) (Q0 : Exit → Act → World → Prop) (h : QHead s q raw uni b f i B x w0 R0 j v15 l fu w)
    (hraw : raw = false) (hlt : i + j < s.size) (hne : startsB s (i + j) q = false) (h92 : bt s (i + j) = 92) (hp : plainEsc (bt s (i + j + 1)) = false) (ho : ¬ (48 ≤ bt s (i + j + 1) ∧ bt s (i + j + 1) ≤ 51)) (hx : ¬ (bt s (i + j + 1) = 120 ∨ bt s (i + j + 1) = 88 ∨ bt s (i + j + 1) = 117 ∨ bt s (i + j + 1) = 85)) (hpan : ∀ a' w' ch, a'.defers = [] → Thrown B w0 (.panicked ch) w' → Q0 (.panic ch) a' w') :
    Code.wp Tryz.prog qBody (Exit.then (fun a' w' => QInv s q name raw uni b f i B x w0 R0 a' w' ∧ qMu s i a' < s.size - i - j) Q0) ⟨#[.pointer (some ⟨b, 0, none⟩), .string q, .bool raw, .bool uni, .string name, .bool false, g 6, g 7, g 8, g 9, g 10, g 11, g 12, g 13, .int .i64 (j : Int), v15, .bool false, g 17, g 18, g 19, g 20, g 21, g 22, g 23, g 24, g 25, g 26, g 27, g 28, g 29, g 30, g 31, g 32, g 33, g 34, g 35, g 36, g 37, g 38, g 39, g 40, g 41, g 42, g 43, g 44, g 45, g 46, g 47, g 48, g 49, g 50, g 51, g 52, g 53, g 54, g 55, g 56, g 57, g 58, g 59, g 60, g 61, g 62, g 63, g 64, g 65, g 66, g 67, g 68, g 69, g 70, g 71, g 72, g 73, g 74, g 75, g 76, g 77, g 78, g 79, g 80, g 81, g 82, g 83, g 84, g 85, g 86, g 87, g 88, g 89, g 90, g 91, g 92, g 93, g 94, g 95, g 96, g 97, g 98, g 99, g 100, g 101, g 102, g 103, g 104, g 105, g 106, g 107, g 108, g 109, g 110, g 111, g 112, g 113, g 114, g 115, g 116, g 117, g 118, g 119, g 120, g 121, g 122, g 123, g 124, g 125, g 126, g 127, g 128, g 129, g 130, g 131, g 132, g 133, g 134, g 135, g 136, g 137, g 138, g 139, g 140, g 141, g 142, g 143, g 144, g 145, g 146, g 147, g 148, g 149, g 150, g 151, g 152, g 153, g 154, g 155, g 156, g 157, g 158, g 159, g 160, g 161, g 162, g 163, g 164, g 165, g 166, g 167, g 168, g 169, g 170, g 171, g 172, g 173, g 174, g 175, g 176, g 177, g 178, g 179, g 180, g 181, g 182, g 183, g 184, g 185, g 186, g 187, g 188, g 189, g 190, g 191, g 192, g 193, g 194, g 195, g 196, g 197, g 198, g 199, g 200, g 201, g 202, g 203, g 204, g 205, g 206, g 207, g 208, g 209, g 210, g 211, g 212, g 213, g 214, g 215, g 216, g 217, g 218, g 219, g 220, g 221, g 222, g 223, g 224, g 225, g 226, g 227, g 228, g 229, g 230, g 231, g 232, g 233, g 234, g 235, g 236, g 237, g 238, g 239, g 240, g 241, g 242, g 243, g 244, g 245, g 246, g 247, g 248, g 249, g 250, g 251, g 252, g 253, g 254, g 255, g 256, g 257, g 258, g 259, g 260, g 261, g 262, g 263, g 264, g 265, g 266, g 267, g 268, g 269, g 270, g 271, g 272, g 273, g 274, g 275, g 276, g 277, g 278, g 279, g 280, g 281, g 282, g 283, g 284, g 285, g 286, g 287, g 288, g 289, g 290, g 291, g 292, g 293, g 294, g 295, g 296, g 297, g 298, g 299, g 300, g 301, g 302, g 303, g 304, g 305, g 306, g 307, g 308, g 309, g 310, g 311, g 312, g 313, g 314, g 315, g 316, g 317, g 318, g 319, g 320, g 321, g 322, g 323, g 324, g 325, g 326, g 327, g 328, g 329, g 330, g 331, g 332, g 333, g 334, g 335, g 336, g 337, g 338, g 339, g 340, g 341, g 342, g 343, g 344, g 345, g 346, g 347, g 348, g 349, g 350, g 351, g 352, g 353, g 354, g 355, g 356, g 357, g 358, g 359, g 360, g 361, g 362, g 363, g 364, g 365, g 366, g 367, g 368, g 369, g 370, g 371, g 372, g 373, g 374, g 375, g 376, g 377, g 378, g 379, g 380, g 381, g 382, g 383, g 384, g 385, g 386, g 387, g 388, g 389, g 390, g 391, g 392, g 393, g 394, g 395, g 396, g 397, g 398, g 399, g 400, g 401, g 402, g 403, g 404, g 405, g 406, g 407, g 408, g 409, g 410, g 411, g 412, g 413, g 414, g 415, g 416, g 417, g 418, g 419, g 420, g 421, g 422, g 423, g 424, g 425, g 426, g 427, g 428, g 429, g 430, g 431, g 432, g 433, g 434, g 435, g 436, g 437, g 438, g 439, g 440, g 441, g 442, g 443, g 444, g 445, g 446, g 447, g 448, g 449, g 450, g 451, g 452, g 453, g 454, g 455, g 456, g 457, g 458, g 459, g 460, g 461, g 462, g 463, g 464, g 465, g 466, g 467, g 468, g 469, g 470, g 471, g 472, g 473, g 474, g 475, g 476, g 477, g 478, g 479, g 480, g 481, g 482, g 483, g 484, g 485, g 486, g 487, g 488, g 489, g 490, g 491, g 492, g 493, g 494, g 495, g 496, g 497, g 498, g 499, g 500, g 501, g 502, g 503, g 504, g 505, g 506, g 507, g 508, g 509, g 510, g 511], []⟩ w := by
  conv => arg 2; whnf
  have hs := h.env.small
  have hj := h.le
  have hq3 : 1 ≤ q.size ∧ q.size ≤ 3 := by have := h.q13; omega
  obtain ⟨he10, hnl⟩ := h.esc _ hlt h92
  have hst := (starts_eq s q (i + j) hj).trans hne
  subst hraw
  clear hnl
  have hp2 := of_decide_eq_false hp
  clear hp
  go_wp2_with fail
  refine (h.peekOk _ h.low j _ rfl (by omega)).mono ?_
  rintro e w' ⟨rfl, n1, rfl⟩
  rw [decide_eq_true hlt]
  go_wp2_with fail
  refine (h.slice _ (h.low.trans (below_dn _ _ _)) j (j + q.size) _ _ rfl (by omega) (by omega) (by omega) (by omega)).mono ?_
  rintro e w' ⟨rfl, n2, rfl⟩
  rw [show i + (j + q.size) = i + j + q.size by omega]
  go_wp2_with fail
  refine (h.peek _ (h.low.trans (below_dn _ _ _)) j _ rfl hlt).mono ?_
  rintro e w' ⟨rfl, n3, rfl⟩
  rw [h92]
  clear h92
  go_wp2_with fail
  refine (h.peekOk _ (h.low.trans (below_dn _ _ _)) (j + 1) _ (by omega) (by omega)).mono ?_
  rintro e w' ⟨rfl, n4, rfl⟩
  rw [decide_eq_true (show i + (j + 1) < s.size by omega)]
  go_wp2_with fail
  refine (h.peek _ (h.low.trans (below_dn _ _ _)) (j + 1) _ (by omega) (by omega)).mono ?_
  rintro e w' ⟨rfl, n5, rfl⟩
  obtain ⟨d, hd⟩ : ∃ d, bt s (i + (j + 1)) = d := ⟨_, rfl⟩
  rw [hd]
  rw [show i + j + 1 = i + (j + 1) by omega, hd] at ho hx hp2
  clear hd
  have e97 : (d == 97) = false := by simp; omega
  have e98 : (d == 98) = false := by simp; omega
  have e102 : (d == 102) = false := by simp; omega
  have e110 : (d == 110) = false := by simp; omega
  have e114 : (d == 114) = false := by simp; omega
  have e116 : (d == 116) = false := by simp; omega
  have e118 : (d == 118) = false := by simp; omega
  have e92 : (d == 92) = false := by simp; omega
  have e63 : (d == 63) = false := by simp; omega
  have e34 : (d == 34) = false := by simp; omega
  have e39 : (d == 39) = false := by simp; omega
  have e96 : (d == 96) = false := by simp; omega
  have e120 : (d == 120) = false := by simp; omega
  have e88 : (d == 88) = false := by simp; omega
  have e117 : (d == 117) = false := by simp; omega
  have e85 : (d == 85) = false := by simp; omega
  have e48 : (d == 48) = false := by simp; omega
  have e49 : (d == 49) = false := by simp; omega
  have e50 : (d == 50) = false := by simp; omega
  have e51 : (d == 51) = false := by simp; omega
  clear ho hx hp2
  go_wp2_with fail
  refine wp_region_still_tail 14 (by kernel_rfl) (by kernel_rfl) ?_
  simp only [List.take_succ_cons, List.take_zero, List.drop_succ_cons, List.drop_zero]
  have hV := (h.low.trans (below_dn _ w (n1 + n2 + n3 + n4 + n5))).trans (drew_below w0.heap.size (w.drewN (n1 + n2 + n3 + n4 + n5)))
  generalize ({ heap := (w.drewN (n1 + n2 + n3 + n4 + n5)).heap, tape := (w.drewN (n1 + n2 + n3 + n4 + n5)).tape, drawn := (w.drewN (n1 + n2 + n3 + n4 + n5)).drawn + 1, os := (w.drewN (n1 + n2 + n3 + n4 + n5)).os, output := (w.drewN (n1 + n2 + n3 + n4 + n5)).output } : World) = V at hV ⊢
  have c9 := h.cell9w V hV
  repeat still_step
  refine wpStill_nil ?_
  go_wp2_with fail
  refine (h.panics V hV _ (i + j) (i + (j + 2)) _ _ (by omega) (by omega) (by omega) (by omega)).mono ?_
  rintro e w1 k
  obtain ⟨v, p, rfl, herr, hlow⟩ := k
  exact hpan _ _ _ rfl ⟨v, p, rfl, herr, hlow⟩
end Go.Proofs.YtmkkeacbabmaeaaGreatDoor
namespace Go.Proofs.YtmkkeacbabmaeaaGreatDoor
open Go.RowKit Go.PlainAid

theorem escOf_uni {s : ByteArray} {i : Nat} (hi : i + 1 < s.size) (h : bt s (i + 1) = 117 ∨ bt s (i + 1) = 85) : escOf s i true = none := by
  refine escOf_no hi (no_simple (by unfold plainEsc; exact decide_eq_false (by omega))) (by omega) ?_
  unfold escDigits
  rw [if_neg (by omega), if_neg (fun k => by cases k.2), if_neg (fun k => by cases k.2)]
theorem escOf_other {s : ByteArray} {i : Nat} {bytes : Bool} (hp : plainEsc (bt s (i + 1)) = false) (ho : ¬ (48 ≤ bt s (i + 1) ∧ bt s (i + 1) ≤ 51)) (hx : ¬ (bt s (i + 1) = 120 ∨ bt s (i + 1) = 88 ∨ bt s (i + 1) = 117 ∨ bt s (i + 1) = 85)) : escOf s i bytes = none := by
  by_cases hi : i + 1 < s.size
  · refine escOf_no hi (no_simple hp) ho ?_
    unfold escDigits
    rw [if_neg (by omega), if_neg (by omega), if_neg (by omega)]
  · exact escOf_end hi
set_option maxRecDepth 1000000 in
set_option maxHeartbeats 8000000 in
/-- A round of the loop over a literal. -/
theorem q_round (ident : Bool) (s q name : ByteArray) (raw uni : Bool) (b f i B : Nat) (x : LxS) (w0 : World) (R0 : QRes) (Q0 : Exit → Act → World → Prop) (a : Act) (w : World) (hI : QInv s q name raw uni b f i B x w0 R0 a w)
    (hid : (name.toList == [105, 100, 101, 110, 116, 105, 102, 105, 101, 114]) = ident)
    (hexit : (∃ n, R0 = .bad n) → ∀ a' w', a'.tmps.toList.length = 512 → a'.defers = [] → sl a' 0 = .pointer (some ⟨b, 0, none⟩) → sl a' 5 = .bool false → (∃ j : Nat, sl a' 14 = .int .i64 j ∧ i + j ≤ s.size) → RowKit.Below w0.heap.size w0 w' → Q0 (.exit 0) a' w')
    (hret : ∀ v n, R0 = .good v n → (ident && v.isEmpty) = false → ∀ a' w', a'.defers = [] → sl a' 12 = .string ⟨v.toArray⟩ → sl a' 13 = .bool false → LxAt w' b f { x with pos := (n : Int) } → Only b w0 w' → Q0 .ret a' w')
    (hpan : ((∃ n, R0 = .bad n) ∨ ∃ v n, R0 = .good v n ∧ (ident && v.isEmpty) = true) → ∀ a' w' ch, a'.defers = [] → Thrown B w0 (.panicked ch) w' → Q0 (.panic ch) a' w') :
    Code.wp Tryz.prog qBody (Exit.then (fun a' w' => QInv s q name raw uni b f i B x w0 R0 a' w' ∧ qMu s i a' < qMu s i a) Q0) a w := by
  obtain ⟨hlen, hd, h0, h1, h2, h3, h4, h5, h16, j, l, fu, h14, h⟩ := hI
  have em : qMu s i a = s.size - i - j := by unfold qMu; rw [h14]; show s.size - i - ((j : Int)).toNat = _; rw [Int.toNat_natCast]
  rw [em]
  clear em
  obtain ⟨g, rfl, hg⟩ := act_lit a hlen hd
  rw [hg] at h0 h1 h2 h3 h4 h5 h16 h14 h
  obtain ⟨v15, hv15⟩ : ∃ v15, g 15 = v15 := ⟨_, rfl⟩
  rw [hv15] at h
  rw [h0, h1, h2, h3, h4, h5, h14, hv15, h16]
  clear hlen hd h0 h1 h2 h3 h4 h5 h16 h14 hg hv15
  by_cases hlt : i + j < s.size
  · obtain ⟨k, hk⟩ : ∃ k, fu = k + 1 := ⟨fu - 1, by have := h.fuel; omega⟩
    have hres := h.res
    rw [hk] at hres
    cases hst : startsB s (i + j) q with
    | true =>
      rw [quotFrom_stop hlt hst] at hres
      obtain ⟨hxl, hown⟩ := h.own
      rcases hown with ⟨hv, hl⟩ | ⟨gb, cap, cur, hv, hrest⟩
      · have hl2 : l = [] := List.length_eq_zero_iff.1 hl
        cases ident with
        | true => exact q_emptynil g s q name raw uni b f i j B fu v15 l x w w0 R0 Q0 h hlt hst true hid hv rfl (hpan (Or.inr ⟨_, _, hres.symm, by rw [hl2]; rfl⟩))
        | false => exact q_stopnil g s q name raw uni b f i j B fu v15 l x w w0 R0 Q0 h hlt hst false hid hv hl2 rfl (fun a' w' e1 e2 e3 e4 e5 => hret _ _ hres.symm rfl a' w' e1 e2 e3 (by rw [show i + j + q.size = i + (j + q.size) by omega]; exact e4) e5)
      · by_cases hl : l.length = 0
        · have hl2 : l = [] := List.length_eq_zero_iff.1 hl
          cases ident with
          | true => exact q_empty g s q name raw uni b f i j B fu v15 l x w w0 R0 Q0 h hlt hst true hid gb cap (by rw [hv, hl]) rfl (hpan (Or.inr ⟨_, _, hres.symm, by rw [hl2]; rfl⟩))
          | false => exact q_stop g s q name raw uni b f i j B fu v15 l x w w0 R0 Q0 h hlt hst false hid gb cap hv (fun _ => rfl) (fun a' w' e1 e2 e3 e4 e5 => hret _ _ hres.symm rfl a' w' e1 e2 e3 (by rw [show i + j + q.size = i + (j + q.size) by omega]; exact e4) e5)
        · exact q_stop g s q name raw uni b f i j B fu v15 l x w w0 R0 Q0 h hlt hst ident hid gb cap hv (fun e => absurd e hl) (fun a' w' e1 e2 e3 e4 e5 => hret _ _ hres.symm (by cases l with
            | nil => exact absurd rfl hl
            | cons _ _ => simp) a' w' e1 e2 e3 (by rw [show i + j + q.size = i + (j + q.size) by omega]; exact e4) e5)
    | false =>
      by_cases h92 : bt s (i + j) = 92
      · cases raw with
        | true => exact q_raw g s q name true uni b f i j B fu v15 l x w w0 R0 Q0 h rfl hlt hst h92
        | false =>
          have hpb : (∃ n, R0 = .bad n) → ∀ a' w' ch, a'.defers = [] → Thrown B w0 (.panicked ch) w' → Q0 (.panic ch) a' w' := fun hb => hpan (Or.inl hb)
          have hesc : escOf s (i + j) (!uni) = none → ∃ n, R0 = .bad n := fun he => ⟨_, by rw [← hres]; exact quotFrom_escbad hlt hst (fun hn => by have hn1 := hn.1; unfold isNL at hn1; omega) h92 he⟩
          obtain ⟨he10, _⟩ := h.esc _ hlt h92
          by_cases d97 : bt s (i + j + 1) = 97
          · exact q_esc97 g s q name false uni b f i j B fu v15 l x w w0 R0 Q0 h rfl hlt hst h92 d97
          by_cases d98 : bt s (i + j + 1) = 98
          · exact q_esc98 g s q name false uni b f i j B fu v15 l x w w0 R0 Q0 h rfl hlt hst h92 d98
          by_cases d102 : bt s (i + j + 1) = 102
          · exact q_esc102 g s q name false uni b f i j B fu v15 l x w w0 R0 Q0 h rfl hlt hst h92 d102
          by_cases d110 : bt s (i + j + 1) = 110
          · exact q_esc110 g s q name false uni b f i j B fu v15 l x w w0 R0 Q0 h rfl hlt hst h92 d110
          by_cases d114 : bt s (i + j + 1) = 114
          · exact q_esc114 g s q name false uni b f i j B fu v15 l x w w0 R0 Q0 h rfl hlt hst h92 d114
          by_cases d116 : bt s (i + j + 1) = 116
          · exact q_esc116 g s q name false uni b f i j B fu v15 l x w w0 R0 Q0 h rfl hlt hst h92 d116
          by_cases d118 : bt s (i + j + 1) = 118
          · exact q_esc118 g s q name false uni b f i j B fu v15 l x w w0 R0 Q0 h rfl hlt hst h92 d118
          by_cases d92 : bt s (i + j + 1) = 92
          · exact q_esc92 g s q name false uni b f i j B fu v15 l x w w0 R0 Q0 h rfl hlt hst h92 d92
          by_cases d63 : bt s (i + j + 1) = 63
          · exact q_esc63 g s q name false uni b f i j B fu v15 l x w w0 R0 Q0 h rfl hlt hst h92 d63
          by_cases d34 : bt s (i + j + 1) = 34
          · exact q_esc34 g s q name false uni b f i j B fu v15 l x w w0 R0 Q0 h rfl hlt hst h92 d34
          by_cases d39 : bt s (i + j + 1) = 39
          · exact q_esc39 g s q name false uni b f i j B fu v15 l x w w0 R0 Q0 h rfl hlt hst h92 d39
          by_cases d96 : bt s (i + j + 1) = 96
          · exact q_esc96 g s q name false uni b f i j B fu v15 l x w w0 R0 Q0 h rfl hlt hst h92 d96
          by_cases d120 : bt s (i + j + 1) = 120
          · exact q_x120 g s q name false uni b f i j B fu v15 l x w w0 R0 Q0 h rfl hlt hst h92 d120 hpb
          by_cases d88 : bt s (i + j + 1) = 88
          · exact q_x88 g s q name false uni b f i j B fu v15 l x w w0 R0 Q0 h rfl hlt hst h92 d88 hpb
          by_cases d48 : bt s (i + j + 1) = 48
          · exact q_o48 g s q name false uni b f i j B fu v15 l x w w0 R0 Q0 h rfl hlt hst h92 d48 hpb
          by_cases d49 : bt s (i + j + 1) = 49
          · exact q_o49 g s q name false uni b f i j B fu v15 l x w w0 R0 Q0 h rfl hlt hst h92 d49 hpb
          by_cases d50 : bt s (i + j + 1) = 50
          · exact q_o50 g s q name false uni b f i j B fu v15 l x w w0 R0 Q0 h rfl hlt hst h92 d50 hpb
          by_cases d51 : bt s (i + j + 1) = 51
          · exact q_o51 g s q name false uni b f i j B fu v15 l x w w0 R0 Q0 h rfl hlt hst h92 d51 hpb
          by_cases d117 : bt s (i + j + 1) = 117
          · cases uni with
            | true => exact q_u117 g s q name false true b f i j B fu v15 l x w w0 R0 Q0 h rfl rfl hlt hst h92 d117 hpb
            | false => exact q_b117 g s q name false false b f i j B fu v15 l x w w0 R0 Q0 h rfl rfl hlt hst h92 d117 (hpb (hesc (escOf_uni (by omega) (Or.inl d117))))
          by_cases d85 : bt s (i + j + 1) = 85
          · cases uni with
            | true => exact q_u85 g s q name false true b f i j B fu v15 l x w w0 R0 Q0 h rfl rfl hlt hst h92 d85 hpb
            | false => exact q_b85 g s q name false false b f i j B fu v15 l x w w0 R0 Q0 h rfl rfl hlt hst h92 d85 (hpb (hesc (escOf_uni (by omega) (Or.inr d85))))
          exact q_other g s q name false uni b f i j B fu v15 l x w w0 R0 Q0 h rfl hlt hst h92 (decide_eq_false (by omega)) (by omega) (by omega) (hpb (hesc (escOf_other (decide_eq_false (by omega)) (by omega) (by omega))))
      · by_cases hnl : bt s (i + j) = 10
        · rcases h.q13 with hq | hq
          · exact q_nlbad g s q name raw uni b f i j B fu v15 l x w w0 R0 Q0 h hlt hst hnl hq (hpan (Or.inl ⟨_, by rw [← hres]; exact quotFrom_nl hlt hst ⟨Or.inl hnl, hq⟩⟩))
          · exact q_plain3 g s q name raw uni b f i j B fu v15 l x w w0 R0 Q0 h hlt hst h92 hnl hq
        · exact q_plain g s q name raw uni b f i j B fu v15 l x w w0 R0 Q0 h hlt hst h92 hnl
  · exact q_end g s q name raw uni b f i j B fu v15 l x w w0 R0 Q0 h hlt (fun a' w' e1 e2 e3 e4 e5 e6 => hexit ⟨_, by rw [← h.res]; exact quotFrom_end hlt⟩ a' w' e1 e2 e3 e4 ⟨j, e5, h.le⟩ e6)
end Go.Proofs.YtmkkeacbabmaeaaGreatDoor
namespace Go.Proofs.YtmkkeacbabmaeaaGreatDoor
open Go.RowKit Go.PlainAid

theorem QuotPost.mk_good {ident : Bool} {b f B : Nat} {x : LxS} {v : List UInt8} {n : Nat} {w : World} {e : Ending} {w' : World} (hi : (ident && v.isEmpty) = false) (h : e = .returned (.tuple #[.string ⟨v.toArray⟩, .bool false]) ∧ LxAt w' b f { x with pos := (n : Int) } ∧ Only b w w') : QuotPost ident b f B x (.good v n) w e w' := by
  show if (ident && v.isEmpty) = true then Thrown B w e w' else e = .returned (.tuple #[.string ⟨v.toArray⟩, .bool false]) ∧ LxAt w' b f { x with pos := (n : Int) } ∧ Only b w w'
  rw [if_neg (by rw [hi]; exact Bool.false_ne_true)]
  exact h
theorem QuotPost.mk_thrown {ident : Bool} {b f B : Nat} {x : LxS} {v : List UInt8} {n : Nat} {w : World} {e : Ending} {w' : World} (hi : (ident && v.isEmpty) = true) (h : Thrown B w e w') : QuotPost ident b f B x (.good v n) w e w' := by
  show if (ident && v.isEmpty) = true then Thrown B w e w' else e = .returned (.tuple #[.string ⟨v.toArray⟩, .bool false]) ∧ LxAt w' b f { x with pos := (n : Int) } ∧ Only b w w'
  rw [if_pos hi]
  exact h
theorem sl_getD (l : List Value) (k : Nat) : (Array.mk l).getD k undef = nth l k := by
  rw [nth_get]
  simp [Array.getD_eq_getD_getElem?]
theorem trip_name (name : ByteArray) : ((⟨#[116, 114, 105, 112, 108, 101, 45, 113, 117, 111, 116, 101, 100, 32]⟩ ++ name : ByteArray).toList == [105, 100, 101, 110, 116, 105, 102, 105, 101, 114]) = false := by
  rw [ByteArray.toList_eq]
  simp
set_option maxRecDepth 1000000 in
set_option maxHeartbeats 2000000 in
/-- The loop over a literal. -/
theorem q_all (ident : Bool) (s q name : ByteArray) (raw uni : Bool) (b f i B : Nat) (x : LxS) (w0 : World) (R0 : QRes) (Q0 : Exit → Act → World → Prop) (a : Act) (w : World) (hI : QInv s q name raw uni b f i B x w0 R0 a w)
    (hid : (name.toList == [105, 100, 101, 110, 116, 105, 102, 105, 101, 114]) = ident)
    (hexit : (∃ n, R0 = .bad n) → ∀ a' w', a'.tmps.toList.length = 512 → a'.defers = [] → sl a' 0 = .pointer (some ⟨b, 0, none⟩) → sl a' 5 = .bool false → (∃ j : Nat, sl a' 14 = .int .i64 j ∧ i + j ≤ s.size) → RowKit.Below w0.heap.size w0 w' → Q0 (.exit 0) a' w')
    (hret : ∀ v n, R0 = .good v n → (ident && v.isEmpty) = false → ∀ a' w', a'.defers = [] → sl a' 12 = .string ⟨v.toArray⟩ → sl a' 13 = .bool false → LxAt w' b f { x with pos := (n : Int) } → Only b w0 w' → Q0 .ret a' w')
    (hpan : ((∃ n, R0 = .bad n) ∨ ∃ v n, R0 = .good v n ∧ (ident && v.isEmpty) = true) → ∀ a' w' ch, a'.defers = [] → Thrown B w0 (.panicked ch) w' → Q0 (.panic ch) a' w') :
    Code.wp Tryz.prog (Code.loop qBody) Q0 a w := by
  refine wp_loop (QInv s q name raw uni b f i B x w0 R0) (fun a _ => qMu s i a) hI ?_
  intro a1 w1 hI1
  exact q_round ident s q name raw uni b f i B x w0 R0 Q0 a1 w1 hI1 hid hexit hret hpan
set_option maxHeartbeats 8000000 in
set_option maxRecDepth 1000000 in
theorem quoted1_c (s q name : ByteArray) (raw uni : Bool) (b f i B : Nat) (x : LxS) (w : World) (ident : Bool) (hE : Env s b f B w) (hx : LxAt w b f x) (hp : x.pos = i) (hok : ∀ k, k < s.size → okB (bt s k) = true) (hesc : ∀ k, k < s.size → bt s k = 92 → k + 10 ≤ s.size ∧ bt s (k + 1) ≠ 10)
    (hle : i + q.size ≤ s.size) (hq : q.size = 1) (hid : (name.toList == [105, 100, 101, 110, 116, 105, 102, 105, 101, 114]) = ident) :
    Calls Tryz.prog 60 #[.pointer (some ⟨b, 0, none⟩), .string q, .bool raw, .bool uni, .string name, .bool false] w (QuotPost ident b f B x (quotFrom s q raw (!uni) s.size (i + q.size) []) w) := by
  obtain ⟨R0, hR⟩ : ∃ R0, quotFrom s q raw (!uni) s.size (i + q.size) [] = R0 := ⟨_, rfl⟩
  rw [hR]
  have hI : Hid (∀ a : Act, a.tmps.toList.length = 512 → a.defers = [] → sl a 0 = .pointer (some ⟨b, 0, none⟩) → sl a 1 = .string q → sl a 2 = .bool raw → sl a 3 = .bool uni → sl a 4 = .string name → sl a 5 = .bool false → sl a 16 = .bool false → sl a 14 = .int .i64 1 → sl a 15 = .slice none 0 0 → QInv s q name raw uni b f i B x w R0 a w) := by
    intro a e1 e2 e3 e4 e5 e6 e7 e8 e9 e10 e11
    refine ⟨e1, e2, e3, e4, e5, e6, e7, e8, e9, q.size, [], s.size, e10.trans (by rw [hq]; rfl), ?_⟩
    rw [e11]
    exact { env := hE, lx := hx, pos := hp, q13 := by omega, le := hle, own := ⟨rfl, Or.inl ⟨rfl, rfl⟩⟩, len := by simp, low := RowKit.Below.refl _ _, fuel := by omega, res := hR, ok := hok, esc := hesc }
  have HE := Lib.hid hE
  have Hx := Lib.hid hx
  have Hp := Lib.hid hp
  have hs := hE.small
  have Hid' := Lib.hid hid
  clear hE hx hp hok hesc hid
  go_enter Tryz.func60, Tryz.ntmps60
  have hqb : ((q.size : Int) == 3) = false := by simp; omega
  go_wp2_with fail
  refine q_all ident s q name raw uni b f i B x w R0 _ _ _ (hI.out _ rfl rfl rfl rfl rfl rfl rfl rfl rfl rfl rfl) Hid'.out ?_ ?_ ?_
  · intro hbad a' w' hlen hdf h0 h5 hj hlow
    obtain ⟨j, h14, hij⟩ := hj
    obtain ⟨n0, hR0⟩ := hbad
    obtain ⟨g2, rfl, hg⟩ := act_lit a' hlen hdf
    rw [hg] at h0 h5 h14
    rw [h0, h5, h14]
    clear hlen hdf h0 h5 h14 hg
    have Hlow := Lib.hid hlow
    have HR := Lib.hid hR0
    have hsz := hlow.size
    clear hlow hR0 hR
    go_wp2_with fail
    refine wp_region_still_tail 11 (by kernel_rfl) (by kernel_rfl) ?_
    simp only [List.take_succ_cons, List.take_zero, List.drop_succ_cons, List.drop_zero]
    have hV := Hlow.out.trans (drew_below w.heap.size w')
    generalize ({ heap := w'.heap, tape := w'.tape, drawn := w'.drawn + 1, os := w'.os, output := w'.output } : World) = V at hV ⊢
    have c9 : V.cell? ⟨b, 9, none⟩ = some (.int .i64 i) := by have k := (Hx.out.below hV).cell9; rw [Hp.out] at k; exact k
    repeat still_step
    refine wpStill_nil ?_
    have hO := Only.of_below (b := b) hV
    have hE2 := HE.out.only hO
    have hcall := fun m => errorfAt_c s m b f i (i + j) B x V HE.out.small (by omega) (by omega) (Hx.out.below hV) hE2.file hE2.bf hE2.bw hE2.tab
    rw [Int.natCast_add] at hcall
    have Hcall := Lib.hid hcall
    clear hcall
    go_wp2_with fail
    refine (Hcall.out _).mono ?_
    rintro e w1 ⟨v, rfl, hg, hb⟩
    obtain ⟨eb, g, rfl, k1, k2, k3, k4⟩ := hg
    go_wp2_with fail
    refine ⟨rfl, ?_⟩
    rw [HR.out]
    exact Thrown.fromB hV HE.out.bw ⟨_, i, rfl, ⟨eb, g, rfl, k1, k2, k3, k4⟩, hb⟩
  · intro v n hR0 hi a' w' hdf h12 h13 hlx hO
    obtain ⟨⟨l⟩, ds⟩ := a'
    refine bodyPost_ret (v := .tuple #[.string ⟨v.toArray⟩, .bool false]) ?_ hdf ?_
    · rw [results_tmp2 (t := 12) (u := 13) rfl]
      have g12 : (Array.mk l).getD 12 undef = .string ⟨v.toArray⟩ := (sl_getD l 12).trans h12
      have g13 : (Array.mk l).getD 13 undef = .bool false := (sl_getD l 13).trans h13
      show Result.ok (Value.tuple #[(Array.mk l).getD 12 undef, (Array.mk l).getD 13 undef]) w' = _
      rw [g12, g13]
    · rw [hR0]
      exact QuotPost.mk_good hi ⟨rfl, hlx, hO⟩
  · intro hor a' w' ch hdf hth
    refine ⟨hdf, ?_⟩
    rcases hor with ⟨n, hb⟩ | ⟨v, n, hg, hi⟩
    · rw [hb]
      exact hth
    · rw [hg]
      exact QuotPost.mk_thrown hi hth
set_option maxHeartbeats 8000000 in
set_option maxRecDepth 1000000 in
theorem quoted3_c (s q name : ByteArray) (raw uni : Bool) (b f i B : Nat) (x : LxS) (w : World) (hE : Env s b f B w) (hx : LxAt w b f x) (hp : x.pos = i) (hok : ∀ k, k < s.size → okB (bt s k) = true) (hesc : ∀ k, k < s.size → bt s k = 92 → k + 10 ≤ s.size ∧ bt s (k + 1) ≠ 10)
    (hle : i + q.size ≤ s.size) (hq : q.size = 3) (hid : name.size ≤ 1000) :
    Calls Tryz.prog 60 #[.pointer (some ⟨b, 0, none⟩), .string q, .bool raw, .bool uni, .string name, .bool false] w (QuotPost false b f B x (quotFrom s q raw (!uni) s.size (i + q.size) []) w) := by
  obtain ⟨R0, hR⟩ : ∃ R0, quotFrom s q raw (!uni) s.size (i + q.size) [] = R0 := ⟨_, rfl⟩
  rw [hR]
  have hI : Hid (∀ a : Act, a.tmps.toList.length = 512 → a.defers = [] → sl a 0 = .pointer (some ⟨b, 0, none⟩) → sl a 1 = .string q → sl a 2 = .bool raw → sl a 3 = .bool uni → sl a 4 = .string (⟨#[116, 114, 105, 112, 108, 101, 45, 113, 117, 111, 116, 101, 100, 32]⟩ ++ name) → sl a 5 = .bool false → sl a 16 = .bool false → sl a 14 = .int .i64 3 → sl a 15 = .slice none 0 0 → QInv s q (⟨#[116, 114, 105, 112, 108, 101, 45, 113, 117, 111, 116, 101, 100, 32]⟩ ++ name) raw uni b f i B x w R0 a w) := by
    intro a e1 e2 e3 e4 e5 e6 e7 e8 e9 e10 e11
    refine ⟨e1, e2, e3, e4, e5, e6, e7, e8, e9, q.size, [], s.size, e10.trans (by rw [hq]; rfl), ?_⟩
    rw [e11]
    exact { env := hE, lx := hx, pos := hp, q13 := by omega, le := hle, own := ⟨rfl, Or.inl ⟨rfl, rfl⟩⟩, len := by simp, low := RowKit.Below.refl _ _, fuel := by omega, res := hR, ok := hok, esc := hesc }
  have HE := Lib.hid hE
  have Hx := Lib.hid hx
  have Hp := Lib.hid hp
  have hs := hE.small
  have Hid' := Lib.hid hid
  clear hE hx hp hok hesc hid
  go_enter Tryz.func60, Tryz.ntmps60
  have hqb : ((q.size : Int) == 3) = true := by simp; omega
  have hnm : ¬ 9223372036854775807 < 14 + name.size := by have := Hid'.out; omega
  go_wp2_with fail
  refine q_all false s q (⟨#[116, 114, 105, 112, 108, 101, 45, 113, 117, 111, 116, 101, 100, 32]⟩ ++ name) raw uni b f i B x w R0 _ _ _ (hI.out _ rfl rfl rfl rfl rfl rfl rfl rfl rfl rfl rfl) (trip_name name) ?_ ?_ ?_
  · intro hbad a' w' hlen hdf h0 h5 hj hlow
    obtain ⟨j, h14, hij⟩ := hj
    obtain ⟨n0, hR0⟩ := hbad
    obtain ⟨g2, rfl, hg⟩ := act_lit a' hlen hdf
    rw [hg] at h0 h5 h14
    rw [h0, h5, h14]
    clear hlen hdf h0 h5 h14 hg
    have Hlow := Lib.hid hlow
    have HR := Lib.hid hR0
    have hsz := hlow.size
    clear hlow hR0 hR
    go_wp2_with fail
    refine wp_region_still_tail 11 (by kernel_rfl) (by kernel_rfl) ?_
    simp only [List.take_succ_cons, List.take_zero, List.drop_succ_cons, List.drop_zero]
    have hV := Hlow.out.trans (drew_below w.heap.size w')
    generalize ({ heap := w'.heap, tape := w'.tape, drawn := w'.drawn + 1, os := w'.os, output := w'.output } : World) = V at hV ⊢
    have c9 : V.cell? ⟨b, 9, none⟩ = some (.int .i64 i) := by have k := (Hx.out.below hV).cell9; rw [Hp.out] at k; exact k
    repeat still_step
    refine wpStill_nil ?_
    have hO := Only.of_below (b := b) hV
    have hE2 := HE.out.only hO
    have hcall := fun m => errorfAt_c s m b f i (i + j) B x V HE.out.small (by omega) (by omega) (Hx.out.below hV) hE2.file hE2.bf hE2.bw hE2.tab
    rw [Int.natCast_add] at hcall
    have Hcall := Lib.hid hcall
    clear hcall
    go_wp2_with fail
    refine (Hcall.out _).mono ?_
    rintro e w1 ⟨v, rfl, hg, hb⟩
    obtain ⟨eb, g, rfl, k1, k2, k3, k4⟩ := hg
    go_wp2_with fail
    refine ⟨rfl, ?_⟩
    rw [HR.out]
    exact Thrown.fromB hV HE.out.bw ⟨_, i, rfl, ⟨eb, g, rfl, k1, k2, k3, k4⟩, hb⟩
  · intro v n hR0 hi a' w' hdf h12 h13 hlx hO
    obtain ⟨⟨l⟩, ds⟩ := a'
    refine bodyPost_ret (v := .tuple #[.string ⟨v.toArray⟩, .bool false]) ?_ hdf ?_
    · rw [results_tmp2 (t := 12) (u := 13) rfl]
      have g12 : (Array.mk l).getD 12 undef = .string ⟨v.toArray⟩ := (sl_getD l 12).trans h12
      have g13 : (Array.mk l).getD 13 undef = .bool false := (sl_getD l 13).trans h13
      show Result.ok (Value.tuple #[(Array.mk l).getD 12 undef, (Array.mk l).getD 13 undef]) w' = _
      rw [g12, g13]
    · rw [hR0]
      exact QuotPost.mk_good hi ⟨rfl, hlx, hO⟩
  · intro hor a' w' ch hdf hth
    refine ⟨hdf, ?_⟩
    rcases hor with ⟨n, hb⟩ | ⟨v, n, hg, hi⟩
    · rw [hb]
      exact hth
    · rw [hg]
      exact QuotPost.mk_thrown hi hth
end Go.Proofs.YtmkkeacbabmaeaaGreatDoor
namespace Go.Proofs.YtmkkeacbabmaeaaGreatDoor
open Go.RowKit Go.PlainAid

theorem QuotPost.good {b f B : Nat} {x : LxS} {v : List UInt8} {n : Nat} {w : World} {e : Ending} {w' : World} (h : QuotPost false b f B x (.good v n) w e w') : e = .returned (.tuple #[.string ⟨v.toArray⟩, .bool false]) ∧ LxAt w' b f { x with pos := (n : Int) } ∧ Only b w w' := by
  have h2 : if (false && v.isEmpty) = true then Thrown B w e w' else e = .returned (.tuple #[.string ⟨v.toArray⟩, .bool false]) ∧ LxAt w' b f { x with pos := (n : Int) } ∧ Only b w w' := h
  rw [if_neg (by simp)] at h2
  exact h2
theorem markOf_size {s : ByteArray} {i : Nat} (hi : i < s.size) : ((markOf s i).size = 1 ∨ (markOf s i).size = 3) ∧ i + (markOf s i).size ≤ s.size := by
  have h1 : (s.extract i (i + 1)).size = 1 := by rw [ByteArray.size_extract]; omega
  unfold markOf
  split
  · rename_i h
    have h2 := startsB_le h.2
    simp only [ByteArray.size_append] at h2 ⊢
    omega
  · omega
theorem quot_any (s name : ByteArray) (raw uni : Bool) (b f i B : Nat) (x : LxS) (w : World) (h : THead s b f i B x w) (hi : i < s.size) (hnm : name.size ≤ 1000) (hid : (name.toList == [105, 100, 101, 110, 116, 105, 102, 105, 101, 114]) = false) :
    Calls Tryz.prog 60 #[.pointer (some ⟨b, 0, none⟩), .string (markOf s i), .bool raw, .bool uni, .string name, .bool false] w (QuotPost false b f B x (quotOf s i raw (!uni)) w) := by
  obtain ⟨h1 | h1, h2⟩ := markOf_size hi
  · exact quoted1_c s (markOf s i) name raw uni b f i B x w false h.env h.lx h.pos h.ok h.esc h2 h1 hid
  · exact quoted3_c s (markOf s i) name raw uni b f i B x w h.env h.lx h.pos h.ok h.esc h2 h1 hnm
theorem THead.kind {s : ByteArray} {b f i B : Nat} {x : LxS} {w : World} (h : THead s b f i B x w) (k : ByteArray) : THead s b f i B { x with kind := k } (w.setCell ⟨b, 1, none⟩ (.string k)) :=
  ⟨h.env.only ((Only.refl b w).setCell 1 _), h.lx.setKind k, h.pos, h.le, h.ok, h.esc⟩
theorem THead.only {s : ByteArray} {b f i B : Nat} {x y : LxS} {w w1 : World} (h : THead s b f i B x w) (hO : Only b w w1) (hl : LxAt w1 b f y) (hp : y.pos = x.pos) : THead s b f i B y w1 :=
  ⟨h.env.only hO, hl, hp.trans h.pos, h.le, h.ok, h.esc⟩
theorem quot_good {s : ByteArray} {i n : Nat} {raw bytes : Bool} {v : List UInt8} (h : quotOf s i raw bytes = .good v n) : quotTok s i raw bytes = some ⟨if bytes = true then kBytes else kString, some ⟨v.toArray⟩, none, n⟩ := by rw [quotTok, h]
theorem quot_bad {s : ByteArray} {i n : Nat} {raw bytes : Bool} (h : quotOf s i raw bytes = .bad n) : quotTok s i raw bytes = none := by rw [quotTok, h]
set_option maxHeartbeats 2000000 in
set_option maxRecDepth 100000 in
theorem consumeRawBytes_c (s : ByteArray) (b f i B : Nat) (x : LxS) (after : Bool) (w : World) (h : THead s b f i B x w) (hi : i < s.size) (hq : bt s i = 34 ∨ bt s i = 39) :
    Calls Tryz.prog 61 #[.pointer (some ⟨b, 0, none⟩), .bool false] w (Step b f x B (tokStep x after (quotTok s i true true)) w) := by
  have H := Lib.hid h
  have h2 := h.kind kBytes
  have H2 := Lib.hid h2
  have hO2 := (Only.refl b w).setCell 1 (.string kBytes)
  have hpd := peekDelimiter_c s b f i { x with kind := kBytes } _ h.env.small hi h2.lx h2.pos h2.env.file hq
  have Hpd := Lib.hid hpd
  have HO2 := Lib.hid hO2
  have c1 := h.lx.cell1
  have f1 := h.lx.free 1
  clear h h2 hpd hO2
  go_enter Tryz.func61, Tryz.ntmps61
  go_wp2_with fail
  refine Hpd.out.mono ?_
  rintro e w1 ⟨rfl, hO3, hl3⟩
  have h3 := H2.out.only hO3 hl3 rfl
  have hO4 := HO2.out.trans hO3
  go_wp2_with fail
  refine (quot_any s _ true false b f i B { x with kind := kBytes } w1 h3 hi (by decide) (by rw [ByteArray.toList_eq]; rfl)).mono ?_
  rintro e w2 k
  cases hr : quotOf s i true true with
  | bad n =>
    rw [show quotOf s i true (!false) = .bad n from hr] at k
    have k2 : Thrown B w1 e w2 := k
    have k3 := Thrown.from hO4 H.out.lx H.out.env.bb H.out.env.bw k2
    rw [quot_bad hr]
    obtain ⟨v, p, rfl, herr, hlow⟩ := k3
    exact ⟨rfl, v, p, rfl, herr, hlow⟩
  | good v n =>
    rw [show quotOf s i true (!false) = .good v n from hr] at k
    obtain ⟨rfl, hl5, hO5⟩ := k.good
    have Hsp := Lib.hid (quot_good hr)
    clear k hr
    have Hl5 := Lib.hid hl5
    have HO5 := Lib.hid (hO4.trans hO5)
    have c5 := hl5.cell5
    have f5 := hl5.free 5
    clear hl5 hO5 hO4 hO3 hl3 h3
    go_wp2_with fail
    go_end0
    exact step_tok Hsp.out rfl (Hl5.out.setText _) (HO5.out.setCell 5 _)
set_option maxHeartbeats 2000000 in
set_option maxRecDepth 100000 in
theorem consumeBytes_c (s : ByteArray) (b f i B : Nat) (x : LxS) (after : Bool) (w : World) (h : THead s b f i B x w) (hi : i < s.size) (hq : bt s i = 34 ∨ bt s i = 39) :
    Calls Tryz.prog 62 #[.pointer (some ⟨b, 0, none⟩), .bool false] w (Step b f x B (tokStep x after (quotTok s i false true)) w) := by
  have H := Lib.hid h
  have h2 := h.kind kBytes
  have H2 := Lib.hid h2
  have hO2 := (Only.refl b w).setCell 1 (.string kBytes)
  have hpd := peekDelimiter_c s b f i { x with kind := kBytes } _ h.env.small hi h2.lx h2.pos h2.env.file hq
  have Hpd := Lib.hid hpd
  have HO2 := Lib.hid hO2
  have c1 := h.lx.cell1
  have f1 := h.lx.free 1
  clear h h2 hpd hO2
  go_enter Tryz.func62, Tryz.ntmps62
  go_wp2_with fail
  refine Hpd.out.mono ?_
  rintro e w1 ⟨rfl, hO3, hl3⟩
  have h3 := H2.out.only hO3 hl3 rfl
  have hO4 := HO2.out.trans hO3
  go_wp2_with fail
  refine (quot_any s _ false false b f i B { x with kind := kBytes } w1 h3 hi (by decide) (by rw [ByteArray.toList_eq]; rfl)).mono ?_
  rintro e w2 k
  cases hr : quotOf s i false true with
  | bad n =>
    rw [show quotOf s i false (!false) = .bad n from hr] at k
    have k2 : Thrown B w1 e w2 := k
    have k3 := Thrown.from hO4 H.out.lx H.out.env.bb H.out.env.bw k2
    rw [quot_bad hr]
    obtain ⟨v, p, rfl, herr, hlow⟩ := k3
    exact ⟨rfl, v, p, rfl, herr, hlow⟩
  | good v n =>
    rw [show quotOf s i false (!false) = .good v n from hr] at k
    obtain ⟨rfl, hl5, hO5⟩ := k.good
    have Hsp := Lib.hid (quot_good hr)
    clear k hr
    have Hl5 := Lib.hid hl5
    have HO5 := Lib.hid (hO4.trans hO5)
    have c5 := hl5.cell5
    have f5 := hl5.free 5
    clear hl5 hO5 hO4 hO3 hl3 h3
    go_wp2_with fail
    go_end0
    exact step_tok Hsp.out rfl (Hl5.out.setText _) (HO5.out.setCell 5 _)
set_option maxHeartbeats 2000000 in
set_option maxRecDepth 100000 in
theorem consumeRawString_c (s : ByteArray) (b f i B : Nat) (x : LxS) (after : Bool) (w : World) (h : THead s b f i B x w) (hi : i < s.size) (hq : bt s i = 34 ∨ bt s i = 39) :
    Calls Tryz.prog 63 #[.pointer (some ⟨b, 0, none⟩), .bool false] w (Step b f x B (tokStep x after (quotTok s i true false)) w) := by
  have H := Lib.hid h
  have h2 := h.kind kString
  have H2 := Lib.hid h2
  have hO2 := (Only.refl b w).setCell 1 (.string kString)
  have hpd := peekDelimiter_c s b f i { x with kind := kString } _ h.env.small hi h2.lx h2.pos h2.env.file hq
  have Hpd := Lib.hid hpd
  have HO2 := Lib.hid hO2
  have c1 := h.lx.cell1
  have f1 := h.lx.free 1
  clear h h2 hpd hO2
  go_enter Tryz.func63, Tryz.ntmps63
  go_wp2_with fail
  refine Hpd.out.mono ?_
  rintro e w1 ⟨rfl, hO3, hl3⟩
  have h3 := H2.out.only hO3 hl3 rfl
  have hO4 := HO2.out.trans hO3
  go_wp2_with fail
  refine (quot_any s _ true true b f i B { x with kind := kString } w1 h3 hi (by decide) (by rw [ByteArray.toList_eq]; rfl)).mono ?_
  rintro e w2 k
  cases hr : quotOf s i true false with
  | bad n =>
    rw [show quotOf s i true (!true) = .bad n from hr] at k
    have k2 : Thrown B w1 e w2 := k
    have k3 := Thrown.from hO4 H.out.lx H.out.env.bb H.out.env.bw k2
    rw [quot_bad hr]
    obtain ⟨v, p, rfl, herr, hlow⟩ := k3
    exact ⟨rfl, v, p, rfl, herr, hlow⟩
  | good v n =>
    rw [show quotOf s i true (!true) = .good v n from hr] at k
    obtain ⟨rfl, hl5, hO5⟩ := k.good
    have Hsp := Lib.hid (quot_good hr)
    clear k hr
    have Hl5 := Lib.hid hl5
    have HO5 := Lib.hid (hO4.trans hO5)
    have c5 := hl5.cell5
    have f5 := hl5.free 5
    clear hl5 hO5 hO4 hO3 hl3 h3
    go_wp2_with fail
    go_end0
    exact step_tok Hsp.out rfl (Hl5.out.setText _) (HO5.out.setCell 5 _)
set_option maxHeartbeats 2000000 in
set_option maxRecDepth 100000 in
theorem consumeString_c (s : ByteArray) (b f i B : Nat) (x : LxS) (after : Bool) (w : World) (h : THead s b f i B x w) (hi : i < s.size) (hq : bt s i = 34 ∨ bt s i = 39) :
    Calls Tryz.prog 64 #[.pointer (some ⟨b, 0, none⟩), .bool false] w (Step b f x B (tokStep x after (quotTok s i false false)) w) := by
  have H := Lib.hid h
  have h2 := h.kind kString
  have H2 := Lib.hid h2
  have hO2 := (Only.refl b w).setCell 1 (.string kString)
  have hpd := peekDelimiter_c s b f i { x with kind := kString } _ h.env.small hi h2.lx h2.pos h2.env.file hq
  have Hpd := Lib.hid hpd
  have HO2 := Lib.hid hO2
  have c1 := h.lx.cell1
  have f1 := h.lx.free 1
  clear h h2 hpd hO2
  go_enter Tryz.func64, Tryz.ntmps64
  go_wp2_with fail
  refine Hpd.out.mono ?_
  rintro e w1 ⟨rfl, hO3, hl3⟩
  have h3 := H2.out.only hO3 hl3 rfl
  have hO4 := HO2.out.trans hO3
  go_wp2_with fail
  refine (quot_any s _ false true b f i B { x with kind := kString } w1 h3 hi (by decide) (by rw [ByteArray.toList_eq]; rfl)).mono ?_
  rintro e w2 k
  cases hr : quotOf s i false false with
  | bad n =>
    rw [show quotOf s i false (!true) = .bad n from hr] at k
    have k2 : Thrown B w1 e w2 := k
    have k3 := Thrown.from hO4 H.out.lx H.out.env.bb H.out.env.bw k2
    rw [quot_bad hr]
    obtain ⟨v, p, rfl, herr, hlow⟩ := k3
    exact ⟨rfl, v, p, rfl, herr, hlow⟩
  | good v n =>
    rw [show quotOf s i false (!true) = .good v n from hr] at k
    obtain ⟨rfl, hl5, hO5⟩ := k.good
    have Hsp := Lib.hid (quot_good hr)
    clear k hr
    have Hl5 := Lib.hid hl5
    have HO5 := Lib.hid (hO4.trans hO5)
    have c5 := hl5.cell5
    have f5 := hl5.free 5
    clear hl5 hO5 hO4 hO3 hl3 h3
    go_wp2_with fail
    go_end0
    exact step_tok Hsp.out rfl (Hl5.out.setText _) (HO5.out.setCell 5 _)
end Go.Proofs.YtmkkeacbabmaeaaGreatDoor
namespace Go.Proofs.YtmkkeacbabmaeaaGreatDoor
open Go.RowKit Go.PlainAid

noncomputable def tLoopA : Code := ((Tryz.f38.body.map allLoops).getD []).getD 0 .skip
noncomputable def tLoopP : Code := ((Tryz.f38.body.map allLoops).getD []).getD 1 .skip
noncomputable def tLoopW : Code := ((Tryz.f38.body.map allLoops).getD []).getD 2 .skip

set_option maxRecDepth 1000000 in
/-- A frame of 464 slots, written out. -/
theorem act_lit464 (a : Act) (h : a.tmps.toList.length = 464) (hd : a.defers = []) : ∃ g : Nat → Value, a = ⟨#[g 0, g 1, g 2, g 3, g 4, g 5, g 6, g 7, g 8, g 9, g 10, g 11, g 12, g 13, g 14, g 15, g 16, g 17, g 18, g 19, g 20, g 21, g 22, g 23, g 24, g 25, g 26, g 27, g 28, g 29, g 30, g 31, g 32, g 33, g 34, g 35, g 36, g 37, g 38, g 39, g 40, g 41, g 42, g 43, g 44, g 45, g 46, g 47, g 48, g 49, g 50, g 51, g 52, g 53, g 54, g 55, g 56, g 57, g 58, g 59, g 60, g 61, g 62, g 63, g 64, g 65, g 66, g 67, g 68, g 69, g 70, g 71, g 72, g 73, g 74, g 75, g 76, g 77, g 78, g 79, g 80, g 81, g 82, g 83, g 84, g 85, g 86, g 87, g 88, g 89, g 90, g 91, g 92, g 93, g 94, g 95, g 96, g 97, g 98, g 99, g 100, g 101, g 102, g 103, g 104, g 105, g 106, g 107, g 108, g 109, g 110, g 111, g 112, g 113, g 114, g 115, g 116, g 117, g 118, g 119, g 120, g 121, g 122, g 123, g 124, g 125, g 126, g 127, g 128, g 129, g 130, g 131, g 132, g 133, g 134, g 135, g 136, g 137, g 138, g 139, g 140, g 141, g 142, g 143, g 144, g 145, g 146, g 147, g 148, g 149, g 150, g 151, g 152, g 153, g 154, g 155, g 156, g 157, g 158, g 159, g 160, g 161, g 162, g 163, g 164, g 165, g 166, g 167, g 168, g 169, g 170, g 171, g 172, g 173, g 174, g 175, g 176, g 177, g 178, g 179, g 180, g 181, g 182, g 183, g 184, g 185, g 186, g 187, g 188, g 189, g 190, g 191, g 192, g 193, g 194, g 195, g 196, g 197, g 198, g 199, g 200, g 201, g 202, g 203, g 204, g 205, g 206, g 207, g 208, g 209, g 210, g 211, g 212, g 213, g 214, g 215, g 216, g 217, g 218, g 219, g 220, g 221, g 222, g 223, g 224, g 225, g 226, g 227, g 228, g 229, g 230, g 231, g 232, g 233, g 234, g 235, g 236, g 237, g 238, g 239, g 240, g 241, g 242, g 243, g 244, g 245, g 246, g 247, g 248, g 249, g 250, g 251, g 252, g 253, g 254, g 255, g 256, g 257, g 258, g 259, g 260, g 261, g 262, g 263, g 264, g 265, g 266, g 267, g 268, g 269, g 270, g 271, g 272, g 273, g 274, g 275, g 276, g 277, g 278, g 279, g 280, g 281, g 282, g 283, g 284, g 285, g 286, g 287, g 288, g 289, g 290, g 291, g 292, g 293, g 294, g 295, g 296, g 297, g 298, g 299, g 300, g 301, g 302, g 303, g 304, g 305, g 306, g 307, g 308, g 309, g 310, g 311, g 312, g 313, g 314, g 315, g 316, g 317, g 318, g 319, g 320, g 321, g 322, g 323, g 324, g 325, g 326, g 327, g 328, g 329, g 330, g 331, g 332, g 333, g 334, g 335, g 336, g 337, g 338, g 339, g 340, g 341, g 342, g 343, g 344, g 345, g 346, g 347, g 348, g 349, g 350, g 351, g 352, g 353, g 354, g 355, g 356, g 357, g 358, g 359, g 360, g 361, g 362, g 363, g 364, g 365, g 366, g 367, g 368, g 369, g 370, g 371, g 372, g 373, g 374, g 375, g 376, g 377, g 378, g 379, g 380, g 381, g 382, g 383, g 384, g 385, g 386, g 387, g 388, g 389, g 390, g 391, g 392, g 393, g 394, g 395, g 396, g 397, g 398, g 399, g 400, g 401, g 402, g 403, g 404, g 405, g 406, g 407, g 408, g 409, g 410, g 411, g 412, g 413, g 414, g 415, g 416, g 417, g 418, g 419, g 420, g 421, g 422, g 423, g 424, g 425, g 426, g 427, g 428, g 429, g 430, g 431, g 432, g 433, g 434, g 435, g 436, g 437, g 438, g 439, g 440, g 441, g 442, g 443, g 444, g 445, g 446, g 447, g 448, g 449, g 450, g 451, g 452, g 453, g 454, g 455, g 456, g 457, g 458, g 459, g 460, g 461, g 462, g 463], []⟩ ∧ ∀ k, sl a k = g k := by
  obtain ⟨⟨l⟩, ds⟩ := a
  have hd2 : ds = [] := hd
  subst hd2
  refine ⟨nth l, ?_, fun k => rfl⟩
  have e := frame_eta l 464 h
  have e2 : (List.range 464).map (nth l) = [nth l 0, nth l 1, nth l 2, nth l 3, nth l 4, nth l 5, nth l 6, nth l 7, nth l 8, nth l 9, nth l 10, nth l 11, nth l 12, nth l 13, nth l 14, nth l 15, nth l 16, nth l 17, nth l 18, nth l 19, nth l 20, nth l 21, nth l 22, nth l 23, nth l 24, nth l 25, nth l 26, nth l 27, nth l 28, nth l 29, nth l 30, nth l 31, nth l 32, nth l 33, nth l 34, nth l 35, nth l 36, nth l 37, nth l 38, nth l 39, nth l 40, nth l 41, nth l 42, nth l 43, nth l 44, nth l 45, nth l 46, nth l 47, nth l 48, nth l 49, nth l 50, nth l 51, nth l 52, nth l 53, nth l 54, nth l 55, nth l 56, nth l 57, nth l 58, nth l 59, nth l 60, nth l 61, nth l 62, nth l 63, nth l 64, nth l 65, nth l 66, nth l 67, nth l 68, nth l 69, nth l 70, nth l 71, nth l 72, nth l 73, nth l 74, nth l 75, nth l 76, nth l 77, nth l 78, nth l 79, nth l 80, nth l 81, nth l 82, nth l 83, nth l 84, nth l 85, nth l 86, nth l 87, nth l 88, nth l 89, nth l 90, nth l 91, nth l 92, nth l 93, nth l 94, nth l 95, nth l 96, nth l 97, nth l 98, nth l 99, nth l 100, nth l 101, nth l 102, nth l 103, nth l 104, nth l 105, nth l 106, nth l 107, nth l 108, nth l 109, nth l 110, nth l 111, nth l 112, nth l 113, nth l 114, nth l 115, nth l 116, nth l 117, nth l 118, nth l 119, nth l 120, nth l 121, nth l 122, nth l 123, nth l 124, nth l 125, nth l 126, nth l 127, nth l 128, nth l 129, nth l 130, nth l 131, nth l 132, nth l 133, nth l 134, nth l 135, nth l 136, nth l 137, nth l 138, nth l 139, nth l 140, nth l 141, nth l 142, nth l 143, nth l 144, nth l 145, nth l 146, nth l 147, nth l 148, nth l 149, nth l 150, nth l 151, nth l 152, nth l 153, nth l 154, nth l 155, nth l 156, nth l 157, nth l 158, nth l 159, nth l 160, nth l 161, nth l 162, nth l 163, nth l 164, nth l 165, nth l 166, nth l 167, nth l 168, nth l 169, nth l 170, nth l 171, nth l 172, nth l 173, nth l 174, nth l 175, nth l 176, nth l 177, nth l 178, nth l 179, nth l 180, nth l 181, nth l 182, nth l 183, nth l 184, nth l 185, nth l 186, nth l 187, nth l 188, nth l 189, nth l 190, nth l 191, nth l 192, nth l 193, nth l 194, nth l 195, nth l 196, nth l 197, nth l 198, nth l 199, nth l 200, nth l 201, nth l 202, nth l 203, nth l 204, nth l 205, nth l 206, nth l 207, nth l 208, nth l 209, nth l 210, nth l 211, nth l 212, nth l 213, nth l 214, nth l 215, nth l 216, nth l 217, nth l 218, nth l 219, nth l 220, nth l 221, nth l 222, nth l 223, nth l 224, nth l 225, nth l 226, nth l 227, nth l 228, nth l 229, nth l 230, nth l 231, nth l 232, nth l 233, nth l 234, nth l 235, nth l 236, nth l 237, nth l 238, nth l 239, nth l 240, nth l 241, nth l 242, nth l 243, nth l 244, nth l 245, nth l 246, nth l 247, nth l 248, nth l 249, nth l 250, nth l 251, nth l 252, nth l 253, nth l 254, nth l 255, nth l 256, nth l 257, nth l 258, nth l 259, nth l 260, nth l 261, nth l 262, nth l 263, nth l 264, nth l 265, nth l 266, nth l 267, nth l 268, nth l 269, nth l 270, nth l 271, nth l 272, nth l 273, nth l 274, nth l 275, nth l 276, nth l 277, nth l 278, nth l 279, nth l 280, nth l 281, nth l 282, nth l 283, nth l 284, nth l 285, nth l 286, nth l 287, nth l 288, nth l 289, nth l 290, nth l 291, nth l 292, nth l 293, nth l 294, nth l 295, nth l 296, nth l 297, nth l 298, nth l 299, nth l 300, nth l 301, nth l 302, nth l 303, nth l 304, nth l 305, nth l 306, nth l 307, nth l 308, nth l 309, nth l 310, nth l 311, nth l 312, nth l 313, nth l 314, nth l 315, nth l 316, nth l 317, nth l 318, nth l 319, nth l 320, nth l 321, nth l 322, nth l 323, nth l 324, nth l 325, nth l 326, nth l 327, nth l 328, nth l 329, nth l 330, nth l 331, nth l 332, nth l 333, nth l 334, nth l 335, nth l 336, nth l 337, nth l 338, nth l 339, nth l 340, nth l 341, nth l 342, nth l 343, nth l 344, nth l 345, nth l 346, nth l 347, nth l 348, nth l 349, nth l 350, nth l 351, nth l 352, nth l 353, nth l 354, nth l 355, nth l 356, nth l 357, nth l 358, nth l 359, nth l 360, nth l 361, nth l 362, nth l 363, nth l 364, nth l 365, nth l 366, nth l 367, nth l 368, nth l 369, nth l 370, nth l 371, nth l 372, nth l 373, nth l 374, nth l 375, nth l 376, nth l 377, nth l 378, nth l 379, nth l 380, nth l 381, nth l 382, nth l 383, nth l 384, nth l 385, nth l 386, nth l 387, nth l 388, nth l 389, nth l 390, nth l 391, nth l 392, nth l 393, nth l 394, nth l 395, nth l 396, nth l 397, nth l 398, nth l 399, nth l 400, nth l 401, nth l 402, nth l 403, nth l 404, nth l 405, nth l 406, nth l 407, nth l 408, nth l 409, nth l 410, nth l 411, nth l 412, nth l 413, nth l 414, nth l 415, nth l 416, nth l 417, nth l 418, nth l 419, nth l 420, nth l 421, nth l 422, nth l 423, nth l 424, nth l 425, nth l 426, nth l 427, nth l 428, nth l 429, nth l 430, nth l 431, nth l 432, nth l 433, nth l 434, nth l 435, nth l 436, nth l 437, nth l 438, nth l 439, nth l 440, nth l 441, nth l 442, nth l 443, nth l 444, nth l 445, nth l 446, nth l 447, nth l 448, nth l 449, nth l 450, nth l 451, nth l 452, nth l 453, nth l 454, nth l 455, nth l 456, nth l 457, nth l 458, nth l 459, nth l 460, nth l 461, nth l 462, nth l 463] := by simp only [List.range_eq_range', List.range', List.map_cons, List.map_nil, Nat.reduceAdd]
  rw [e2] at e
  exact congrArg (fun x => (⟨⟨x⟩, []⟩ : Act)) e
/-- The relation of a loop over a name: how many bytes have been seen (slot C). -/
def TInv (C : Nat) (s : ByteArray) (b i k0 : Nat) (w : World) (a : Act) (w' : World) : Prop :=
  a.tmps.toList.length = 464 ∧ a.defers = [] ∧ sl a 0 = .pointer (some ⟨b, 0, none⟩) ∧ sl a 1 = .bool false ∧ ∃ k : Nat, sl a C = .int .i64 k ∧ k0 ≤ k ∧ i + k ≤ s.size ∧ partsEnd s (i + k) = partsEnd s (i + k0) ∧ ∃ dr, w' = w.drewN dr
set_option maxHeartbeats 8000000 in
set_option maxRecDepth 1000000 in
theorem scanA_go (g : Nat → Value) (s : ByteArray) (b f i B k0 k dr : Nat) (x : LxS) (w : World) (Q0 : Exit → Act → World → Prop) (h : THead s b f i B x w) (hk0 : k0 ≤ k) (_hle : i + k ≤ s.size) (hr : partsEnd s (i + k) = partsEnd s (i + k0)) (hlt : i + k < s.size) (hp : partB (bt s (i + k)) = true) :
    Code.wp Tryz.prog tLoopA (Exit.then (fun a' w' => TInv 5 s b i k0 w a' w' ∧ s.size - i - (intOf (sl a' 5)).toNat < s.size - i - k) Q0) ⟨#[.pointer (some ⟨b, 0, none⟩), .bool false, g 2, g 3, g 4, .int .i64 (k : Int), g 6, g 7, g 8, g 9, g 10, g 11, g 12, g 13, g 14, g 15, g 16, g 17, g 18, g 19, g 20, g 21, g 22, g 23, g 24, g 25, g 26, g 27, g 28, g 29, g 30, g 31, g 32, g 33, g 34, g 35, g 36, g 37, g 38, g 39, g 40, g 41, g 42, g 43, g 44, g 45, g 46, g 47, g 48, g 49, g 50, g 51, g 52, g 53, g 54, g 55, g 56, g 57, g 58, g 59, g 60, g 61, g 62, g 63, g 64, g 65, g 66, g 67, g 68, g 69, g 70, g 71, g 72, g 73, g 74, g 75, g 76, g 77, g 78, g 79, g 80, g 81, g 82, g 83, g 84, g 85, g 86, g 87, g 88, g 89, g 90, g 91, g 92, g 93, g 94, g 95, g 96, g 97, g 98, g 99, g 100, g 101, g 102, g 103, g 104, g 105, g 106, g 107, g 108, g 109, g 110, g 111, g 112, g 113, g 114, g 115, g 116, g 117, g 118, g 119, g 120, g 121, g 122, g 123, g 124, g 125, g 126, g 127, g 128, g 129, g 130, g 131, g 132, g 133, g 134, g 135, g 136, g 137, g 138, g 139, g 140, g 141, g 142, g 143, g 144, g 145, g 146, g 147, g 148, g 149, g 150, g 151, g 152, g 153, g 154, g 155, g 156, g 157, g 158, g 159, g 160, g 161, g 162, g 163, g 164, g 165, g 166, g 167, g 168, g 169, g 170, g 171, g 172, g 173, g 174, g 175, g 176, g 177, g 178, g 179, g 180, g 181, g 182, g 183, g 184, g 185, g 186, g 187, g 188, g 189, g 190, g 191, g 192, g 193, g 194, g 195, g 196, g 197, g 198, g 199, g 200, g 201, g 202, g 203, g 204, g 205, g 206, g 207, g 208, g 209, g 210, g 211, g 212, g 213, g 214, g 215, g 216, g 217, g 218, g 219, g 220, g 221, g 222, g 223, g 224, g 225, g 226, g 227, g 228, g 229, g 230, g 231, g 232, g 233, g 234, g 235, g 236, g 237, g 238, g 239, g 240, g 241, g 242, g 243, g 244, g 245, g 246, g 247, g 248, g 249, g 250, g 251, g 252, g 253, g 254, g 255, g 256, g 257, g 258, g 259, g 260, g 261, g 262, g 263, g 264, g 265, g 266, g 267, g 268, g 269, g 270, g 271, g 272, g 273, g 274, g 275, g 276, g 277, g 278, g 279, g 280, g 281, g 282, g 283, g 284, g 285, g 286, g 287, g 288, g 289, g 290, g 291, g 292, g 293, g 294, g 295, g 296, g 297, g 298, g 299, g 300, g 301, g 302, g 303, g 304, g 305, g 306, g 307, g 308, g 309, g 310, g 311, g 312, g 313, g 314, g 315, g 316, g 317, g 318, g 319, g 320, g 321, g 322, g 323, g 324, g 325, g 326, g 327, g 328, g 329, g 330, g 331, g 332, g 333, g 334, g 335, g 336, g 337, g 338, g 339, g 340, g 341, g 342, g 343, g 344, g 345, g 346, g 347, g 348, g 349, g 350, g 351, g 352, g 353, g 354, g 355, g 356, g 357, g 358, g 359, g 360, g 361, g 362, g 363, g 364, g 365, g 366, g 367, g 368, g 369, g 370, g 371, g 372, g 373, g 374, g 375, g 376, g 377, g 378, g 379, g 380, g 381, g 382, g 383, g 384, g 385, g 386, g 387, g 388, g 389, g 390, g 391, g 392, g 393, g 394, g 395, g 396, g 397, g 398, g 399, g 400, g 401, g 402, g 403, g 404, g 405, g 406, g 407, g 408, g 409, g 410, g 411, g 412, g 413, g 414, g 415, g 416, g 417, g 418, g 419, g 420, g 421, g 422, g 423, g 424, g 425, g 426, g 427, g 428, g 429, g 430, g 431, g 432, g 433, g 434, g 435, g 436, g 437, g 438, g 439, g 440, g 441, g 442, g 443, g 444, g 445, g 446, g 447, g 448, g 449, g 450, g 451, g 452, g 453, g 454, g 455, g 456, g 457, g 458, g 459, g 460, g 461, g 462, g 463], []⟩ (w.drewN dr) := by
  conv => arg 2; whnf
  have hs := h.env.small
  have Hr := Lib.hid hr
  clear hr
  go_wp2_with fail
  refine (h.peekOk dr k _ rfl (by omega)).mono ?_
  rintro e w' ⟨rfl, n1, rfl⟩
  rw [decide_eq_true hlt]
  go_wp2_with fail
  refine (h.peek n1 k _ rfl hlt).mono ?_
  rintro e w' ⟨rfl, n2, rfl⟩
  go_wp2_with fail
  refine (IdPart_c _ _).mono ?_
  rintro e w' ⟨rfl, hw⟩
  subst hw
  rw [hp]
  have Hp := Lib.hid hp
  clear hp
  go_wp2_with fail
  refine ⟨⟨rfl, rfl, rfl, rfl, k + 1, rfl, by omega, by omega, ?_, n2, rfl⟩, ?_⟩
  · rw [← Hr.out, partsEnd_go hlt Hp.out, Nat.add_assoc]
  · show s.size - i - ((k : Int) + 1).toNat < _
    omega
set_option maxHeartbeats 8000000 in
set_option maxRecDepth 1000000 in
theorem scanA_stop (g : Nat → Value) (s : ByteArray) (b f i B k0 k dr : Nat) (x : LxS) (w : World) (Q0 : Exit → Act → World → Prop) (h : THead s b f i B x w) (_hk0 : k0 ≤ k) (_hle : i + k ≤ s.size) (hr : partsEnd s (i + k) = partsEnd s (i + k0)) (hlt : i + k < s.size) (hp : partB (bt s (i + k)) = false) (hexit : ∀ a' w', a'.tmps.toList.length = 464 → a'.defers = [] → sl a' 0 = .pointer (some ⟨b, 0, none⟩) → sl a' 1 = .bool false → sl a' 5 = .int .i64 k → (∃ dr, w' = w.drewN dr) → Q0 (.exit 7) a' w') :
    Code.wp Tryz.prog tLoopA (Exit.then (fun a' w' => TInv 5 s b i k0 w a' w' ∧ s.size - i - (intOf (sl a' 5)).toNat < s.size - i - k) Q0) ⟨#[.pointer (some ⟨b, 0, none⟩), .bool false, g 2, g 3, g 4, .int .i64 (k : Int), g 6, g 7, g 8, g 9, g 10, g 11, g 12, g 13, g 14, g 15, g 16, g 17, g 18, g 19, g 20, g 21, g 22, g 23, g 24, g 25, g 26, g 27, g 28, g 29, g 30, g 31, g 32, g 33, g 34, g 35, g 36, g 37, g 38, g 39, g 40, g 41, g 42, g 43, g 44, g 45, g 46, g 47, g 48, g 49, g 50, g 51, g 52, g 53, g 54, g 55, g 56, g 57, g 58, g 59, g 60, g 61, g 62, g 63, g 64, g 65, g 66, g 67, g 68, g 69, g 70, g 71, g 72, g 73, g 74, g 75, g 76, g 77, g 78, g 79, g 80, g 81, g 82, g 83, g 84, g 85, g 86, g 87, g 88, g 89, g 90, g 91, g 92, g 93, g 94, g 95, g 96, g 97, g 98, g 99, g 100, g 101, g 102, g 103, g 104, g 105, g 106, g 107, g 108, g 109, g 110, g 111, g 112, g 113, g 114, g 115, g 116, g 117, g 118, g 119, g 120, g 121, g 122, g 123, g 124, g 125, g 126, g 127, g 128, g 129, g 130, g 131, g 132, g 133, g 134, g 135, g 136, g 137, g 138, g 139, g 140, g 141, g 142, g 143, g 144, g 145, g 146, g 147, g 148, g 149, g 150, g 151, g 152, g 153, g 154, g 155, g 156, g 157, g 158, g 159, g 160, g 161, g 162, g 163, g 164, g 165, g 166, g 167, g 168, g 169, g 170, g 171, g 172, g 173, g 174, g 175, g 176, g 177, g 178, g 179, g 180, g 181, g 182, g 183, g 184, g 185, g 186, g 187, g 188, g 189, g 190, g 191, g 192, g 193, g 194, g 195, g 196, g 197, g 198, g 199, g 200, g 201, g 202, g 203, g 204, g 205, g 206, g 207, g 208, g 209, g 210, g 211, g 212, g 213, g 214, g 215, g 216, g 217, g 218, g 219, g 220, g 221, g 222, g 223, g 224, g 225, g 226, g 227, g 228, g 229, g 230, g 231, g 232, g 233, g 234, g 235, g 236, g 237, g 238, g 239, g 240, g 241, g 242, g 243, g 244, g 245, g 246, g 247, g 248, g 249, g 250, g 251, g 252, g 253, g 254, g 255, g 256, g 257, g 258, g 259, g 260, g 261, g 262, g 263, g 264, g 265, g 266, g 267, g 268, g 269, g 270, g 271, g 272, g 273, g 274, g 275, g 276, g 277, g 278, g 279, g 280, g 281, g 282, g 283, g 284, g 285, g 286, g 287, g 288, g 289, g 290, g 291, g 292, g 293, g 294, g 295, g 296, g 297, g 298, g 299, g 300, g 301, g 302, g 303, g 304, g 305, g 306, g 307, g 308, g 309, g 310, g 311, g 312, g 313, g 314, g 315, g 316, g 317, g 318, g 319, g 320, g 321, g 322, g 323, g 324, g 325, g 326, g 327, g 328, g 329, g 330, g 331, g 332, g 333, g 334, g 335, g 336, g 337, g 338, g 339, g 340, g 341, g 342, g 343, g 344, g 345, g 346, g 347, g 348, g 349, g 350, g 351, g 352, g 353, g 354, g 355, g 356, g 357, g 358, g 359, g 360, g 361, g 362, g 363, g 364, g 365, g 366, g 367, g 368, g 369, g 370, g 371, g 372, g 373, g 374, g 375, g 376, g 377, g 378, g 379, g 380, g 381, g 382, g 383, g 384, g 385, g 386, g 387, g 388, g 389, g 390, g 391, g 392, g 393, g 394, g 395, g 396, g 397, g 398, g 399, g 400, g 401, g 402, g 403, g 404, g 405, g 406, g 407, g 408, g 409, g 410, g 411, g 412, g 413, g 414, g 415, g 416, g 417, g 418, g 419, g 420, g 421, g 422, g 423, g 424, g 425, g 426, g 427, g 428, g 429, g 430, g 431, g 432, g 433, g 434, g 435, g 436, g 437, g 438, g 439, g 440, g 441, g 442, g 443, g 444, g 445, g 446, g 447, g 448, g 449, g 450, g 451, g 452, g 453, g 454, g 455, g 456, g 457, g 458, g 459, g 460, g 461, g 462, g 463], []⟩ (w.drewN dr) := by
  conv => arg 2; whnf
  have hs := h.env.small
  have Hr := Lib.hid hr
  clear hr
  go_wp2_with fail
  refine (h.peekOk dr k _ rfl (by omega)).mono ?_
  rintro e w' ⟨rfl, n1, rfl⟩
  rw [decide_eq_true hlt]
  go_wp2_with fail
  refine (h.peek n1 k _ rfl hlt).mono ?_
  rintro e w' ⟨rfl, n2, rfl⟩
  go_wp2_with fail
  refine (IdPart_c _ _).mono ?_
  rintro e w' ⟨rfl, hw⟩
  subst hw
  rw [hp]
  have Hx := Lib.hid hexit
  clear hexit hp
  go_wp2_with fail
  exact Hx.out _ _ rfl rfl rfl rfl rfl ⟨_, rfl⟩
set_option maxHeartbeats 8000000 in
set_option maxRecDepth 1000000 in
theorem scanA_end (g : Nat → Value) (s : ByteArray) (b f i B k0 k dr : Nat) (x : LxS) (w : World) (Q0 : Exit → Act → World → Prop) (h : THead s b f i B x w) (_hk0 : k0 ≤ k) (hle : i + k ≤ s.size) (hr : partsEnd s (i + k) = partsEnd s (i + k0)) (hlt : ¬ i + k < s.size) (hexit : ∀ a' w', a'.tmps.toList.length = 464 → a'.defers = [] → sl a' 0 = .pointer (some ⟨b, 0, none⟩) → sl a' 1 = .bool false → sl a' 5 = .int .i64 k → (∃ dr, w' = w.drewN dr) → Q0 (.exit 7) a' w') :
    Code.wp Tryz.prog tLoopA (Exit.then (fun a' w' => TInv 5 s b i k0 w a' w' ∧ s.size - i - (intOf (sl a' 5)).toNat < s.size - i - k) Q0) ⟨#[.pointer (some ⟨b, 0, none⟩), .bool false, g 2, g 3, g 4, .int .i64 (k : Int), g 6, g 7, g 8, g 9, g 10, g 11, g 12, g 13, g 14, g 15, g 16, g 17, g 18, g 19, g 20, g 21, g 22, g 23, g 24, g 25, g 26, g 27, g 28, g 29, g 30, g 31, g 32, g 33, g 34, g 35, g 36, g 37, g 38, g 39, g 40, g 41, g 42, g 43, g 44, g 45, g 46, g 47, g 48, g 49, g 50, g 51, g 52, g 53, g 54, g 55, g 56, g 57, g 58, g 59, g 60, g 61, g 62, g 63, g 64, g 65, g 66, g 67, g 68, g 69, g 70, g 71, g 72, g 73, g 74, g 75, g 76, g 77, g 78, g 79, g 80, g 81, g 82, g 83, g 84, g 85, g 86, g 87, g 88, g 89, g 90, g 91, g 92, g 93, g 94, g 95, g 96, g 97, g 98, g 99, g 100, g 101, g 102, g 103, g 104, g 105, g 106, g 107, g 108, g 109, g 110, g 111, g 112, g 113, g 114, g 115, g 116, g 117, g 118, g 119, g 120, g 121, g 122, g 123, g 124, g 125, g 126, g 127, g 128, g 129, g 130, g 131, g 132, g 133, g 134, g 135, g 136, g 137, g 138, g 139, g 140, g 141, g 142, g 143, g 144, g 145, g 146, g 147, g 148, g 149, g 150, g 151, g 152, g 153, g 154, g 155, g 156, g 157, g 158, g 159, g 160, g 161, g 162, g 163, g 164, g 165, g 166, g 167, g 168, g 169, g 170, g 171, g 172, g 173, g 174, g 175, g 176, g 177, g 178, g 179, g 180, g 181, g 182, g 183, g 184, g 185, g 186, g 187, g 188, g 189, g 190, g 191, g 192, g 193, g 194, g 195, g 196, g 197, g 198, g 199, g 200, g 201, g 202, g 203, g 204, g 205, g 206, g 207, g 208, g 209, g 210, g 211, g 212, g 213, g 214, g 215, g 216, g 217, g 218, g 219, g 220, g 221, g 222, g 223, g 224, g 225, g 226, g 227, g 228, g 229, g 230, g 231, g 232, g 233, g 234, g 235, g 236, g 237, g 238, g 239, g 240, g 241, g 242, g 243, g 244, g 245, g 246, g 247, g 248, g 249, g 250, g 251, g 252, g 253, g 254, g 255, g 256, g 257, g 258, g 259, g 260, g 261, g 262, g 263, g 264, g 265, g 266, g 267, g 268, g 269, g 270, g 271, g 272, g 273, g 274, g 275, g 276, g 277, g 278, g 279, g 280, g 281, g 282, g 283, g 284, g 285, g 286, g 287, g 288, g 289, g 290, g 291, g 292, g 293, g 294, g 295, g 296, g 297, g 298, g 299, g 300, g 301, g 302, g 303, g 304, g 305, g 306, g 307, g 308, g 309, g 310, g 311, g 312, g 313, g 314, g 315, g 316, g 317, g 318, g 319, g 320, g 321, g 322, g 323, g 324, g 325, g 326, g 327, g 328, g 329, g 330, g 331, g 332, g 333, g 334, g 335, g 336, g 337, g 338, g 339, g 340, g 341, g 342, g 343, g 344, g 345, g 346, g 347, g 348, g 349, g 350, g 351, g 352, g 353, g 354, g 355, g 356, g 357, g 358, g 359, g 360, g 361, g 362, g 363, g 364, g 365, g 366, g 367, g 368, g 369, g 370, g 371, g 372, g 373, g 374, g 375, g 376, g 377, g 378, g 379, g 380, g 381, g 382, g 383, g 384, g 385, g 386, g 387, g 388, g 389, g 390, g 391, g 392, g 393, g 394, g 395, g 396, g 397, g 398, g 399, g 400, g 401, g 402, g 403, g 404, g 405, g 406, g 407, g 408, g 409, g 410, g 411, g 412, g 413, g 414, g 415, g 416, g 417, g 418, g 419, g 420, g 421, g 422, g 423, g 424, g 425, g 426, g 427, g 428, g 429, g 430, g 431, g 432, g 433, g 434, g 435, g 436, g 437, g 438, g 439, g 440, g 441, g 442, g 443, g 444, g 445, g 446, g 447, g 448, g 449, g 450, g 451, g 452, g 453, g 454, g 455, g 456, g 457, g 458, g 459, g 460, g 461, g 462, g 463], []⟩ (w.drewN dr) := by
  conv => arg 2; whnf
  have hs := h.env.small
  have Hr := Lib.hid hr
  clear hr
  go_wp2_with fail
  refine (h.peekOk dr k _ rfl (by omega)).mono ?_
  rintro e w' ⟨rfl, n1, rfl⟩
  rw [decide_eq_false hlt]
  have Hx := Lib.hid hexit
  clear hexit
  go_wp2_with fail
  exact Hx.out _ _ rfl rfl rfl rfl rfl ⟨_, rfl⟩
set_option maxHeartbeats 2000000 in
set_option maxRecDepth 1000000 in
theorem scanA_c (s : ByteArray) (b f i B k0 : Nat) (x : LxS) (w : World) (a : Act) (wr : World) (Q0 : Exit → Act → World → Prop) (h : THead s b f i B x w) (hI : TInv 5 s b i k0 w a wr)
    (hexit : ∀ k, k0 ≤ k → i + k = partsEnd s (i + k0) → i + k ≤ s.size → ∀ a' w', a'.tmps.toList.length = 464 → a'.defers = [] → sl a' 0 = .pointer (some ⟨b, 0, none⟩) → sl a' 1 = .bool false → sl a' 5 = .int .i64 k → (∃ dr, w' = w.drewN dr) → Q0 (.exit 7) a' w') :
    Code.wp Tryz.prog (Code.loop tLoopA) Q0 a wr := by
  refine wp_loop (TInv 5 s b i k0 w) (fun a _ => s.size - i - (intOf (sl a 5)).toNat) hI ?_
  intro a1 w1 hI1
  obtain ⟨hlen, hd, h0, h1, k, hC, hk0, hle, hr, dr, rfl⟩ := hI1
  have e : s.size - i - (intOf (sl a1 5)).toNat = s.size - i - k := by rw [hC]; show s.size - i - ((k : Int)).toNat = _; rw [Int.toNat_natCast]
  rw [e]
  obtain ⟨g, rfl, hg⟩ := act_lit464 a1 hlen hd
  rw [hg] at h0 h1 hC
  rw [h0, h1, hC]
  by_cases hlt : i + k < s.size
  · cases hp : partB (bt s (i + k)) with
    | true => exact scanA_go g s b f i B k0 k dr x w Q0 h hk0 hle hr hlt hp
    | false => exact scanA_stop g s b f i B k0 k dr x w Q0 h hk0 hle hr hlt hp (hexit k hk0 (by rw [← hr, partsEnd_stop (fun hx => by rw [hp] at hx; cases hx.2)]) hle)
  · exact scanA_end g s b f i B k0 k dr x w Q0 h hk0 hle hr hlt (hexit k hk0 (by rw [← hr, partsEnd_stop (fun hx => hlt hx.1)]) hle)
set_option maxHeartbeats 8000000 in
set_option maxRecDepth 1000000 in
theorem scanW_go (g : Nat → Value) (s : ByteArray) (b f i B k0 k dr : Nat) (x : LxS) (w : World) (Q0 : Exit → Act → World → Prop) (h : THead s b f i B x w) (hk0 : k0 ≤ k) (_hle : i + k ≤ s.size) (hr : partsEnd s (i + k) = partsEnd s (i + k0)) (hlt : i + k < s.size) (hp : partB (bt s (i + k)) = true) :
    Code.wp Tryz.prog tLoopW (Exit.then (fun a' w' => TInv 10 s b i k0 w a' w' ∧ s.size - i - (intOf (sl a' 10)).toNat < s.size - i - k) Q0) ⟨#[.pointer (some ⟨b, 0, none⟩), .bool false, g 2, g 3, g 4, g 5, g 6, g 7, g 8, g 9, .int .i64 (k : Int), g 11, g 12, g 13, g 14, g 15, g 16, g 17, g 18, g 19, g 20, g 21, g 22, g 23, g 24, g 25, g 26, g 27, g 28, g 29, g 30, g 31, g 32, g 33, g 34, g 35, g 36, g 37, g 38, g 39, g 40, g 41, g 42, g 43, g 44, g 45, g 46, g 47, g 48, g 49, g 50, g 51, g 52, g 53, g 54, g 55, g 56, g 57, g 58, g 59, g 60, g 61, g 62, g 63, g 64, g 65, g 66, g 67, g 68, g 69, g 70, g 71, g 72, g 73, g 74, g 75, g 76, g 77, g 78, g 79, g 80, g 81, g 82, g 83, g 84, g 85, g 86, g 87, g 88, g 89, g 90, g 91, g 92, g 93, g 94, g 95, g 96, g 97, g 98, g 99, g 100, g 101, g 102, g 103, g 104, g 105, g 106, g 107, g 108, g 109, g 110, g 111, g 112, g 113, g 114, g 115, g 116, g 117, g 118, g 119, g 120, g 121, g 122, g 123, g 124, g 125, g 126, g 127, g 128, g 129, g 130, g 131, g 132, g 133, g 134, g 135, g 136, g 137, g 138, g 139, g 140, g 141, g 142, g 143, g 144, g 145, g 146, g 147, g 148, g 149, g 150, g 151, g 152, g 153, g 154, g 155, g 156, g 157, g 158, g 159, g 160, g 161, g 162, g 163, g 164, g 165, g 166, g 167, g 168, g 169, g 170, g 171, g 172, g 173, g 174, g 175, g 176, g 177, g 178, g 179, g 180, g 181, g 182, g 183, g 184, g 185, g 186, g 187, g 188, g 189, g 190, g 191, g 192, g 193, g 194, g 195, g 196, g 197, g 198, g 199, g 200, g 201, g 202, g 203, g 204, g 205, g 206, g 207, g 208, g 209, g 210, g 211, g 212, g 213, g 214, g 215, g 216, g 217, g 218, g 219, g 220, g 221, g 222, g 223, g 224, g 225, g 226, g 227, g 228, g 229, g 230, g 231, g 232, g 233, g 234, g 235, g 236, g 237, g 238, g 239, g 240, g 241, g 242, g 243, g 244, g 245, g 246, g 247, g 248, g 249, g 250, g 251, g 252, g 253, g 254, g 255, g 256, g 257, g 258, g 259, g 260, g 261, g 262, g 263, g 264, g 265, g 266, g 267, g 268, g 269, g 270, g 271, g 272, g 273, g 274, g 275, g 276, g 277, g 278, g 279, g 280, g 281, g 282, g 283, g 284, g 285, g 286, g 287, g 288, g 289, g 290, g 291, g 292, g 293, g 294, g 295, g 296, g 297, g 298, g 299, g 300, g 301, g 302, g 303, g 304, g 305, g 306, g 307, g 308, g 309, g 310, g 311, g 312, g 313, g 314, g 315, g 316, g 317, g 318, g 319, g 320, g 321, g 322, g 323, g 324, g 325, g 326, g 327, g 328, g 329, g 330, g 331, g 332, g 333, g 334, g 335, g 336, g 337, g 338, g 339, g 340, g 341, g 342, g 343, g 344, g 345, g 346, g 347, g 348, g 349, g 350, g 351, g 352, g 353, g 354, g 355, g 356, g 357, g 358, g 359, g 360, g 361, g 362, g 363, g 364, g 365, g 366, g 367, g 368, g 369, g 370, g 371, g 372, g 373, g 374, g 375, g 376, g 377, g 378, g 379, g 380, g 381, g 382, g 383, g 384, g 385, g 386, g 387, g 388, g 389, g 390, g 391, g 392, g 393, g 394, g 395, g 396, g 397, g 398, g 399, g 400, g 401, g 402, g 403, g 404, g 405, g 406, g 407, g 408, g 409, g 410, g 411, g 412, g 413, g 414, g 415, g 416, g 417, g 418, g 419, g 420, g 421, g 422, g 423, g 424, g 425, g 426, g 427, g 428, g 429, g 430, g 431, g 432, g 433, g 434, g 435, g 436, g 437, g 438, g 439, g 440, g 441, g 442, g 443, g 444, g 445, g 446, g 447, g 448, g 449, g 450, g 451, g 452, g 453, g 454, g 455, g 456, g 457, g 458, g 459, g 460, g 461, g 462, g 463], []⟩ (w.drewN dr) := by
  conv => arg 2; whnf
  have hs := h.env.small
  have Hr := Lib.hid hr
  clear hr
  go_wp2_with fail
  refine (h.peekOk dr k _ rfl (by omega)).mono ?_
  rintro e w' ⟨rfl, n1, rfl⟩
  rw [decide_eq_true hlt]
  go_wp2_with fail
  refine (h.peek n1 k _ rfl hlt).mono ?_
  rintro e w' ⟨rfl, n2, rfl⟩
  go_wp2_with fail
  refine (IdPart_c _ _).mono ?_
  rintro e w' ⟨rfl, hw⟩
  subst hw
  rw [hp]
  have Hp := Lib.hid hp
  clear hp
  go_wp2_with fail
  refine ⟨⟨rfl, rfl, rfl, rfl, k + 1, rfl, by omega, by omega, ?_, n2, rfl⟩, ?_⟩
  · rw [← Hr.out, partsEnd_go hlt Hp.out, Nat.add_assoc]
  · show s.size - i - ((k : Int) + 1).toNat < _
    omega
set_option maxHeartbeats 8000000 in
set_option maxRecDepth 1000000 in
theorem scanW_stop (g : Nat → Value) (s : ByteArray) (b f i B k0 k dr : Nat) (x : LxS) (w : World) (Q0 : Exit → Act → World → Prop) (h : THead s b f i B x w) (_hk0 : k0 ≤ k) (_hle : i + k ≤ s.size) (hr : partsEnd s (i + k) = partsEnd s (i + k0)) (hlt : i + k < s.size) (hp : partB (bt s (i + k)) = false) (hexit : ∀ a' w', a'.tmps.toList.length = 464 → a'.defers = [] → sl a' 0 = .pointer (some ⟨b, 0, none⟩) → sl a' 1 = .bool false → sl a' 10 = .int .i64 k → (∃ dr, w' = w.drewN dr) → Q0 (.exit 13) a' w') :
    Code.wp Tryz.prog tLoopW (Exit.then (fun a' w' => TInv 10 s b i k0 w a' w' ∧ s.size - i - (intOf (sl a' 10)).toNat < s.size - i - k) Q0) ⟨#[.pointer (some ⟨b, 0, none⟩), .bool false, g 2, g 3, g 4, g 5, g 6, g 7, g 8, g 9, .int .i64 (k : Int), g 11, g 12, g 13, g 14, g 15, g 16, g 17, g 18, g 19, g 20, g 21, g 22, g 23, g 24, g 25, g 26, g 27, g 28, g 29, g 30, g 31, g 32, g 33, g 34, g 35, g 36, g 37, g 38, g 39, g 40, g 41, g 42, g 43, g 44, g 45, g 46, g 47, g 48, g 49, g 50, g 51, g 52, g 53, g 54, g 55, g 56, g 57, g 58, g 59, g 60, g 61, g 62, g 63, g 64, g 65, g 66, g 67, g 68, g 69, g 70, g 71, g 72, g 73, g 74, g 75, g 76, g 77, g 78, g 79, g 80, g 81, g 82, g 83, g 84, g 85, g 86, g 87, g 88, g 89, g 90, g 91, g 92, g 93, g 94, g 95, g 96, g 97, g 98, g 99, g 100, g 101, g 102, g 103, g 104, g 105, g 106, g 107, g 108, g 109, g 110, g 111, g 112, g 113, g 114, g 115, g 116, g 117, g 118, g 119, g 120, g 121, g 122, g 123, g 124, g 125, g 126, g 127, g 128, g 129, g 130, g 131, g 132, g 133, g 134, g 135, g 136, g 137, g 138, g 139, g 140, g 141, g 142, g 143, g 144, g 145, g 146, g 147, g 148, g 149, g 150, g 151, g 152, g 153, g 154, g 155, g 156, g 157, g 158, g 159, g 160, g 161, g 162, g 163, g 164, g 165, g 166, g 167, g 168, g 169, g 170, g 171, g 172, g 173, g 174, g 175, g 176, g 177, g 178, g 179, g 180, g 181, g 182, g 183, g 184, g 185, g 186, g 187, g 188, g 189, g 190, g 191, g 192, g 193, g 194, g 195, g 196, g 197, g 198, g 199, g 200, g 201, g 202, g 203, g 204, g 205, g 206, g 207, g 208, g 209, g 210, g 211, g 212, g 213, g 214, g 215, g 216, g 217, g 218, g 219, g 220, g 221, g 222, g 223, g 224, g 225, g 226, g 227, g 228, g 229, g 230, g 231, g 232, g 233, g 234, g 235, g 236, g 237, g 238, g 239, g 240, g 241, g 242, g 243, g 244, g 245, g 246, g 247, g 248, g 249, g 250, g 251, g 252, g 253, g 254, g 255, g 256, g 257, g 258, g 259, g 260, g 261, g 262, g 263, g 264, g 265, g 266, g 267, g 268, g 269, g 270, g 271, g 272, g 273, g 274, g 275, g 276, g 277, g 278, g 279, g 280, g 281, g 282, g 283, g 284, g 285, g 286, g 287, g 288, g 289, g 290, g 291, g 292, g 293, g 294, g 295, g 296, g 297, g 298, g 299, g 300, g 301, g 302, g 303, g 304, g 305, g 306, g 307, g 308, g 309, g 310, g 311, g 312, g 313, g 314, g 315, g 316, g 317, g 318, g 319, g 320, g 321, g 322, g 323, g 324, g 325, g 326, g 327, g 328, g 329, g 330, g 331, g 332, g 333, g 334, g 335, g 336, g 337, g 338, g 339, g 340, g 341, g 342, g 343, g 344, g 345, g 346, g 347, g 348, g 349, g 350, g 351, g 352, g 353, g 354, g 355, g 356, g 357, g 358, g 359, g 360, g 361, g 362, g 363, g 364, g 365, g 366, g 367, g 368, g 369, g 370, g 371, g 372, g 373, g 374, g 375, g 376, g 377, g 378, g 379, g 380, g 381, g 382, g 383, g 384, g 385, g 386, g 387, g 388, g 389, g 390, g 391, g 392, g 393, g 394, g 395, g 396, g 397, g 398, g 399, g 400, g 401, g 402, g 403, g 404, g 405, g 406, g 407, g 408, g 409, g 410, g 411, g 412, g 413, g 414, g 415, g 416, g 417, g 418, g 419, g 420, g 421, g 422, g 423, g 424, g 425, g 426, g 427, g 428, g 429, g 430, g 431, g 432, g 433, g 434, g 435, g 436, g 437, g 438, g 439, g 440, g 441, g 442, g 443, g 444, g 445, g 446, g 447, g 448, g 449, g 450, g 451, g 452, g 453, g 454, g 455, g 456, g 457, g 458, g 459, g 460, g 461, g 462, g 463], []⟩ (w.drewN dr) := by
  conv => arg 2; whnf
  have hs := h.env.small
  have Hr := Lib.hid hr
  clear hr
  go_wp2_with fail
  refine (h.peekOk dr k _ rfl (by omega)).mono ?_
  rintro e w' ⟨rfl, n1, rfl⟩
  rw [decide_eq_true hlt]
  go_wp2_with fail
  refine (h.peek n1 k _ rfl hlt).mono ?_
  rintro e w' ⟨rfl, n2, rfl⟩
  go_wp2_with fail
  refine (IdPart_c _ _).mono ?_
  rintro e w' ⟨rfl, hw⟩
  subst hw
  rw [hp]
  have Hx := Lib.hid hexit
  clear hexit hp
  go_wp2_with fail
  exact Hx.out _ _ rfl rfl rfl rfl rfl ⟨_, rfl⟩
set_option maxHeartbeats 8000000 in
set_option maxRecDepth 1000000 in
theorem scanW_end (g : Nat → Value) (s : ByteArray) (b f i B k0 k dr : Nat) (x : LxS) (w : World) (Q0 : Exit → Act → World → Prop) (h : THead s b f i B x w) (_hk0 : k0 ≤ k) (hle : i + k ≤ s.size) (hr : partsEnd s (i + k) = partsEnd s (i + k0)) (hlt : ¬ i + k < s.size) (hexit : ∀ a' w', a'.tmps.toList.length = 464 → a'.defers = [] → sl a' 0 = .pointer (some ⟨b, 0, none⟩) → sl a' 1 = .bool false → sl a' 10 = .int .i64 k → (∃ dr, w' = w.drewN dr) → Q0 (.exit 13) a' w') :
    Code.wp Tryz.prog tLoopW (Exit.then (fun a' w' => TInv 10 s b i k0 w a' w' ∧ s.size - i - (intOf (sl a' 10)).toNat < s.size - i - k) Q0) ⟨#[.pointer (some ⟨b, 0, none⟩), .bool false, g 2, g 3, g 4, g 5, g 6, g 7, g 8, g 9, .int .i64 (k : Int), g 11, g 12, g 13, g 14, g 15, g 16, g 17, g 18, g 19, g 20, g 21, g 22, g 23, g 24, g 25, g 26, g 27, g 28, g 29, g 30, g 31, g 32, g 33, g 34, g 35, g 36, g 37, g 38, g 39, g 40, g 41, g 42, g 43, g 44, g 45, g 46, g 47, g 48, g 49, g 50, g 51, g 52, g 53, g 54, g 55, g 56, g 57, g 58, g 59, g 60, g 61, g 62, g 63, g 64, g 65, g 66, g 67, g 68, g 69, g 70, g 71, g 72, g 73, g 74, g 75, g 76, g 77, g 78, g 79, g 80, g 81, g 82, g 83, g 84, g 85, g 86, g 87, g 88, g 89, g 90, g 91, g 92, g 93, g 94, g 95, g 96, g 97, g 98, g 99, g 100, g 101, g 102, g 103, g 104, g 105, g 106, g 107, g 108, g 109, g 110, g 111, g 112, g 113, g 114, g 115, g 116, g 117, g 118, g 119, g 120, g 121, g 122, g 123, g 124, g 125, g 126, g 127, g 128, g 129, g 130, g 131, g 132, g 133, g 134, g 135, g 136, g 137, g 138, g 139, g 140, g 141, g 142, g 143, g 144, g 145, g 146, g 147, g 148, g 149, g 150, g 151, g 152, g 153, g 154, g 155, g 156, g 157, g 158, g 159, g 160, g 161, g 162, g 163, g 164, g 165, g 166, g 167, g 168, g 169, g 170, g 171, g 172, g 173, g 174, g 175, g 176, g 177, g 178, g 179, g 180, g 181, g 182, g 183, g 184, g 185, g 186, g 187, g 188, g 189, g 190, g 191, g 192, g 193, g 194, g 195, g 196, g 197, g 198, g 199, g 200, g 201, g 202, g 203, g 204, g 205, g 206, g 207, g 208, g 209, g 210, g 211, g 212, g 213, g 214, g 215, g 216, g 217, g 218, g 219, g 220, g 221, g 222, g 223, g 224, g 225, g 226, g 227, g 228, g 229, g 230, g 231, g 232, g 233, g 234, g 235, g 236, g 237, g 238, g 239, g 240, g 241, g 242, g 243, g 244, g 245, g 246, g 247, g 248, g 249, g 250, g 251, g 252, g 253, g 254, g 255, g 256, g 257, g 258, g 259, g 260, g 261, g 262, g 263, g 264, g 265, g 266, g 267, g 268, g 269, g 270, g 271, g 272, g 273, g 274, g 275, g 276, g 277, g 278, g 279, g 280, g 281, g 282, g 283, g 284, g 285, g 286, g 287, g 288, g 289, g 290, g 291, g 292, g 293, g 294, g 295, g 296, g 297, g 298, g 299, g 300, g 301, g 302, g 303, g 304, g 305, g 306, g 307, g 308, g 309, g 310, g 311, g 312, g 313, g 314, g 315, g 316, g 317, g 318, g 319, g 320, g 321, g 322, g 323, g 324, g 325, g 326, g 327, g 328, g 329, g 330, g 331, g 332, g 333, g 334, g 335, g 336, g 337, g 338, g 339, g 340, g 341, g 342, g 343, g 344, g 345, g 346, g 347, g 348, g 349, g 350, g 351, g 352, g 353, g 354, g 355, g 356, g 357, g 358, g 359, g 360, g 361, g 362, g 363, g 364, g 365, g 366, g 367, g 368, g 369, g 370, g 371, g 372, g 373, g 374, g 375, g 376, g 377, g 378, g 379, g 380, g 381, g 382, g 383, g 384, g 385, g 386, g 387, g 388, g 389, g 390, g 391, g 392, g 393, g 394, g 395, g 396, g 397, g 398, g 399, g 400, g 401, g 402, g 403, g 404, g 405, g 406, g 407, g 408, g 409, g 410, g 411, g 412, g 413, g 414, g 415, g 416, g 417, g 418, g 419, g 420, g 421, g 422, g 423, g 424, g 425, g 426, g 427, g 428, g 429, g 430, g 431, g 432, g 433, g 434, g 435, g 436, g 437, g 438, g 439, g 440, g 441, g 442, g 443, g 444, g 445, g 446, g 447, g 448, g 449, g 450, g 451, g 452, g 453, g 454, g 455, g 456, g 457, g 458, g 459, g 460, g 461, g 462, g 463], []⟩ (w.drewN dr) := by
  conv => arg 2; whnf
  have hs := h.env.small
  have Hr := Lib.hid hr
  clear hr
  go_wp2_with fail
  refine (h.peekOk dr k _ rfl (by omega)).mono ?_
  rintro e w' ⟨rfl, n1, rfl⟩
  rw [decide_eq_false hlt]
  have Hx := Lib.hid hexit
  clear hexit
  go_wp2_with fail
  exact Hx.out _ _ rfl rfl rfl rfl rfl ⟨_, rfl⟩
set_option maxHeartbeats 2000000 in
set_option maxRecDepth 1000000 in
theorem scanW_c (s : ByteArray) (b f i B k0 : Nat) (x : LxS) (w : World) (a : Act) (wr : World) (Q0 : Exit → Act → World → Prop) (h : THead s b f i B x w) (hI : TInv 10 s b i k0 w a wr)
    (hexit : ∀ k, k0 ≤ k → i + k = partsEnd s (i + k0) → i + k ≤ s.size → ∀ a' w', a'.tmps.toList.length = 464 → a'.defers = [] → sl a' 0 = .pointer (some ⟨b, 0, none⟩) → sl a' 1 = .bool false → sl a' 10 = .int .i64 k → (∃ dr, w' = w.drewN dr) → Q0 (.exit 13) a' w') :
    Code.wp Tryz.prog (Code.loop tLoopW) Q0 a wr := by
  refine wp_loop (TInv 10 s b i k0 w) (fun a _ => s.size - i - (intOf (sl a 10)).toNat) hI ?_
  intro a1 w1 hI1
  obtain ⟨hlen, hd, h0, h1, k, hC, hk0, hle, hr, dr, rfl⟩ := hI1
  have e : s.size - i - (intOf (sl a1 10)).toNat = s.size - i - k := by rw [hC]; show s.size - i - ((k : Int)).toNat = _; rw [Int.toNat_natCast]
  rw [e]
  obtain ⟨g, rfl, hg⟩ := act_lit464 a1 hlen hd
  rw [hg] at h0 h1 hC
  rw [h0, h1, hC]
  by_cases hlt : i + k < s.size
  · cases hp : partB (bt s (i + k)) with
    | true => exact scanW_go g s b f i B k0 k dr x w Q0 h hk0 hle hr hlt hp
    | false => exact scanW_stop g s b f i B k0 k dr x w Q0 h hk0 hle hr hlt hp (hexit k hk0 (by rw [← hr, partsEnd_stop (fun hx => by rw [hp] at hx; cases hx.2)]) hle)
  · exact scanW_end g s b f i B k0 k dr x w Q0 h hk0 hle hr hlt (hexit k hk0 (by rw [← hr, partsEnd_stop (fun hx => hlt hx.1)]) hle)
end Go.Proofs.YtmkkeacbabmaeaaGreatDoor
namespace Go.Proofs.YtmkkeacbabmaeaaGreatDoor
open Go.RowKit Go.PlainAid

/-- The relation of the loop over a prefix. -/
def PInv (s : ByteArray) (b i : Nat) (w : World) (a : Act) (w' : World) : Prop :=
  a.tmps.toList.length = 464 ∧ a.defers = [] ∧ sl a 0 = .pointer (some ⟨b, 0, none⟩) ∧ sl a 1 = .bool false ∧ ∃ (n fu : Nat) (by_ rw_ : Bool), sl a 9 = .int .i64 n ∧ sl a 7 = .bool by_ ∧ sl a 8 = .bool rw_ ∧ n + fu = 3 ∧ prefFrom s i fu rw_ by_ n = prefOf s i ∧ ∃ dr, w' = w.drewN dr
theorem tokStep_pos (x : LxS) (p : Int) (after : Bool) (o : Option TokR) : tokStep { x with pos := p } after o = tokStep x after o := by cases o <;> rfl
set_option maxHeartbeats 8000000 in
set_option maxRecDepth 1000000 in
theorem pre_ff_66 (g : Nat → Value) (s : ByteArray) (b f i B n fu dr : Nat) (x : LxS) (w : World) (Q0 : Exit → Act → World → Prop) (h : THead s b f i B x w) (hf3 : n + fu = 3) (hr : prefFrom s i fu false false n = prefOf s i) (hlt : i + n < s.size) (hn : n < 3) (hc : bt s (i + n) = 66) :
    Code.wp Tryz.prog tLoopP (Exit.then (fun a' w' => PInv s b i w a' w' ∧ 3 - (intOf (sl a' 9)).toNat < 3 - n) Q0) ⟨#[.pointer (some ⟨b, 0, none⟩), .bool false, g 2, g 3, g 4, g 5, g 6, .bool false, .bool false, .int .i64 (n : Int), g 10, g 11, g 12, g 13, g 14, g 15, g 16, g 17, g 18, g 19, g 20, g 21, g 22, g 23, g 24, g 25, g 26, g 27, g 28, g 29, g 30, g 31, g 32, g 33, g 34, g 35, g 36, g 37, g 38, g 39, g 40, g 41, g 42, g 43, g 44, g 45, g 46, g 47, g 48, g 49, g 50, g 51, g 52, g 53, g 54, g 55, g 56, g 57, g 58, g 59, g 60, g 61, g 62, g 63, g 64, g 65, g 66, g 67, g 68, g 69, g 70, g 71, g 72, g 73, g 74, g 75, g 76, g 77, g 78, g 79, g 80, g 81, g 82, g 83, g 84, g 85, g 86, g 87, g 88, g 89, g 90, g 91, g 92, g 93, g 94, g 95, g 96, g 97, g 98, g 99, g 100, g 101, g 102, g 103, g 104, g 105, g 106, g 107, g 108, g 109, g 110, g 111, g 112, g 113, g 114, g 115, g 116, g 117, g 118, g 119, g 120, g 121, g 122, g 123, g 124, g 125, g 126, g 127, g 128, g 129, g 130, g 131, g 132, g 133, g 134, g 135, g 136, g 137, g 138, g 139, g 140, g 141, g 142, g 143, g 144, g 145, g 146, g 147, g 148, g 149, g 150, g 151, g 152, g 153, g 154, g 155, g 156, g 157, g 158, g 159, g 160, g 161, g 162, g 163, g 164, g 165, g 166, g 167, g 168, g 169, g 170, g 171, g 172, g 173, g 174, g 175, g 176, g 177, g 178, g 179, g 180, g 181, g 182, g 183, g 184, g 185, g 186, g 187, g 188, g 189, g 190, g 191, g 192, g 193, g 194, g 195, g 196, g 197, g 198, g 199, g 200, g 201, g 202, g 203, g 204, g 205, g 206, g 207, g 208, g 209, g 210, g 211, g 212, g 213, g 214, g 215, g 216, g 217, g 218, g 219, g 220, g 221, g 222, g 223, g 224, g 225, g 226, g 227, g 228, g 229, g 230, g 231, g 232, g 233, g 234, g 235, g 236, g 237, g 238, g 239, g 240, g 241, g 242, g 243, g 244, g 245, g 246, g 247, g 248, g 249, g 250, g 251, g 252, g 253, g 254, g 255, g 256, g 257, g 258, g 259, g 260, g 261, g 262, g 263, g 264, g 265, g 266, g 267, g 268, g 269, g 270, g 271, g 272, g 273, g 274, g 275, g 276, g 277, g 278, g 279, g 280, g 281, g 282, g 283, g 284, g 285, g 286, g 287, g 288, g 289, g 290, g 291, g 292, g 293, g 294, g 295, g 296, g 297, g 298, g 299, g 300, g 301, g 302, g 303, g 304, g 305, g 306, g 307, g 308, g 309, g 310, g 311, g 312, g 313, g 314, g 315, g 316, g 317, g 318, g 319, g 320, g 321, g 322, g 323, g 324, g 325, g 326, g 327, g 328, g 329, g 330, g 331, g 332, g 333, g 334, g 335, g 336, g 337, g 338, g 339, g 340, g 341, g 342, g 343, g 344, g 345, g 346, g 347, g 348, g 349, g 350, g 351, g 352, g 353, g 354, g 355, g 356, g 357, g 358, g 359, g 360, g 361, g 362, g 363, g 364, g 365, g 366, g 367, g 368, g 369, g 370, g 371, g 372, g 373, g 374, g 375, g 376, g 377, g 378, g 379, g 380, g 381, g 382, g 383, g 384, g 385, g 386, g 387, g 388, g 389, g 390, g 391, g 392, g 393, g 394, g 395, g 396, g 397, g 398, g 399, g 400, g 401, g 402, g 403, g 404, g 405, g 406, g 407, g 408, g 409, g 410, g 411, g 412, g 413, g 414, g 415, g 416, g 417, g 418, g 419, g 420, g 421, g 422, g 423, g 424, g 425, g 426, g 427, g 428, g 429, g 430, g 431, g 432, g 433, g 434, g 435, g 436, g 437, g 438, g 439, g 440, g 441, g 442, g 443, g 444, g 445, g 446, g 447, g 448, g 449, g 450, g 451, g 452, g 453, g 454, g 455, g 456, g 457, g 458, g 459, g 460, g 461, g 462, g 463], []⟩ (w.drewN dr) := by
  conv => arg 2; whnf
  have hs := h.env.small
  have hnb : decide ((n : Int) < 3) = true := by simp; omega
  have Hc := Lib.hid hc
  clear hc
  have Hgo : Hid (prefFrom s i (fu - 1) false true (n + 1) = prefOf s i) := by
    show _ = _
    rw [← hr]
    obtain ⟨k, rfl⟩ : ∃ k, fu = k + 1 := ⟨fu - 1, by omega⟩
    exact (prefFrom_bytes hlt (by have := Hc.out; omega)).symm
  clear hr
  go_wp2_with fail
  refine (h.peekOk dr n _ rfl (by omega)).mono ?_
  rintro e w' ⟨rfl, n1, rfl⟩
  rw [decide_eq_true hlt]
  go_wp2_with fail
  refine (h.peekIs n1 n _ 66 rfl (by omega)).mono ?_
  rintro e w' ⟨rfl, n2, rfl⟩
  rw [decide_eq_true (show (i + n < s.size ∧ bt s (i + n) = 66) from by have := Hc.out; omega)]
  go_wp2_with fail
  refine ⟨⟨rfl, rfl, rfl, rfl, n + 1, fu - 1, true, false, rfl, rfl, rfl, by omega, Hgo.out, _, rfl⟩, ?_⟩
  show 3 - ((n : Int) + 1).toNat < _
  omega
set_option maxHeartbeats 8000000 in
set_option maxRecDepth 1000000 in
theorem pre_ff_98 (g : Nat → Value) (s : ByteArray) (b f i B n fu dr : Nat) (x : LxS) (w : World) (Q0 : Exit → Act → World → Prop) (h : THead s b f i B x w) (hf3 : n + fu = 3) (hr : prefFrom s i fu false false n = prefOf s i) (hlt : i + n < s.size) (hn : n < 3) (hc : bt s (i + n) = 98) :
    Code.wp Tryz.prog tLoopP (Exit.then (fun a' w' => PInv s b i w a' w' ∧ 3 - (intOf (sl a' 9)).toNat < 3 - n) Q0) ⟨#[.pointer (some ⟨b, 0, none⟩), .bool false, g 2, g 3, g 4, g 5, g 6, .bool false, .bool false, .int .i64 (n : Int), g 10, g 11, g 12, g 13, g 14, g 15, g 16, g 17, g 18, g 19, g 20, g 21, g 22, g 23, g 24, g 25, g 26, g 27, g 28, g 29, g 30, g 31, g 32, g 33, g 34, g 35, g 36, g 37, g 38, g 39, g 40, g 41, g 42, g 43, g 44, g 45, g 46, g 47, g 48, g 49, g 50, g 51, g 52, g 53, g 54, g 55, g 56, g 57, g 58, g 59, g 60, g 61, g 62, g 63, g 64, g 65, g 66, g 67, g 68, g 69, g 70, g 71, g 72, g 73, g 74, g 75, g 76, g 77, g 78, g 79, g 80, g 81, g 82, g 83, g 84, g 85, g 86, g 87, g 88, g 89, g 90, g 91, g 92, g 93, g 94, g 95, g 96, g 97, g 98, g 99, g 100, g 101, g 102, g 103, g 104, g 105, g 106, g 107, g 108, g 109, g 110, g 111, g 112, g 113, g 114, g 115, g 116, g 117, g 118, g 119, g 120, g 121, g 122, g 123, g 124, g 125, g 126, g 127, g 128, g 129, g 130, g 131, g 132, g 133, g 134, g 135, g 136, g 137, g 138, g 139, g 140, g 141, g 142, g 143, g 144, g 145, g 146, g 147, g 148, g 149, g 150, g 151, g 152, g 153, g 154, g 155, g 156, g 157, g 158, g 159, g 160, g 161, g 162, g 163, g 164, g 165, g 166, g 167, g 168, g 169, g 170, g 171, g 172, g 173, g 174, g 175, g 176, g 177, g 178, g 179, g 180, g 181, g 182, g 183, g 184, g 185, g 186, g 187, g 188, g 189, g 190, g 191, g 192, g 193, g 194, g 195, g 196, g 197, g 198, g 199, g 200, g 201, g 202, g 203, g 204, g 205, g 206, g 207, g 208, g 209, g 210, g 211, g 212, g 213, g 214, g 215, g 216, g 217, g 218, g 219, g 220, g 221, g 222, g 223, g 224, g 225, g 226, g 227, g 228, g 229, g 230, g 231, g 232, g 233, g 234, g 235, g 236, g 237, g 238, g 239, g 240, g 241, g 242, g 243, g 244, g 245, g 246, g 247, g 248, g 249, g 250, g 251, g 252, g 253, g 254, g 255, g 256, g 257, g 258, g 259, g 260, g 261, g 262, g 263, g 264, g 265, g 266, g 267, g 268, g 269, g 270, g 271, g 272, g 273, g 274, g 275, g 276, g 277, g 278, g 279, g 280, g 281, g 282, g 283, g 284, g 285, g 286, g 287, g 288, g 289, g 290, g 291, g 292, g 293, g 294, g 295, g 296, g 297, g 298, g 299, g 300, g 301, g 302, g 303, g 304, g 305, g 306, g 307, g 308, g 309, g 310, g 311, g 312, g 313, g 314, g 315, g 316, g 317, g 318, g 319, g 320, g 321, g 322, g 323, g 324, g 325, g 326, g 327, g 328, g 329, g 330, g 331, g 332, g 333, g 334, g 335, g 336, g 337, g 338, g 339, g 340, g 341, g 342, g 343, g 344, g 345, g 346, g 347, g 348, g 349, g 350, g 351, g 352, g 353, g 354, g 355, g 356, g 357, g 358, g 359, g 360, g 361, g 362, g 363, g 364, g 365, g 366, g 367, g 368, g 369, g 370, g 371, g 372, g 373, g 374, g 375, g 376, g 377, g 378, g 379, g 380, g 381, g 382, g 383, g 384, g 385, g 386, g 387, g 388, g 389, g 390, g 391, g 392, g 393, g 394, g 395, g 396, g 397, g 398, g 399, g 400, g 401, g 402, g 403, g 404, g 405, g 406, g 407, g 408, g 409, g 410, g 411, g 412, g 413, g 414, g 415, g 416, g 417, g 418, g 419, g 420, g 421, g 422, g 423, g 424, g 425, g 426, g 427, g 428, g 429, g 430, g 431, g 432, g 433, g 434, g 435, g 436, g 437, g 438, g 439, g 440, g 441, g 442, g 443, g 444, g 445, g 446, g 447, g 448, g 449, g 450, g 451, g 452, g 453, g 454, g 455, g 456, g 457, g 458, g 459, g 460, g 461, g 462, g 463], []⟩ (w.drewN dr) := by
  conv => arg 2; whnf
  have hs := h.env.small
  have hnb : decide ((n : Int) < 3) = true := by simp; omega
  have Hc := Lib.hid hc
  clear hc
  have Hgo : Hid (prefFrom s i (fu - 1) false true (n + 1) = prefOf s i) := by
    show _ = _
    rw [← hr]
    obtain ⟨k, rfl⟩ : ∃ k, fu = k + 1 := ⟨fu - 1, by omega⟩
    exact (prefFrom_bytes hlt (by have := Hc.out; omega)).symm
  clear hr
  go_wp2_with fail
  refine (h.peekOk dr n _ rfl (by omega)).mono ?_
  rintro e w' ⟨rfl, n1, rfl⟩
  rw [decide_eq_true hlt]
  go_wp2_with fail
  refine (h.peekIs n1 n _ 66 rfl (by omega)).mono ?_
  rintro e w' ⟨rfl, n2, rfl⟩
  rw [decide_eq_false (show ¬ (i + n < s.size ∧ bt s (i + n) = 66) from by have := Hc.out; omega)]
  go_wp2_with fail
  refine (h.peekIs n2 n _ 98 rfl (by omega)).mono ?_
  rintro e w' ⟨rfl, n3, rfl⟩
  rw [decide_eq_true (show (i + n < s.size ∧ bt s (i + n) = 98) from by have := Hc.out; omega)]
  go_wp2_with fail
  refine ⟨⟨rfl, rfl, rfl, rfl, n + 1, fu - 1, true, false, rfl, rfl, rfl, by omega, Hgo.out, _, rfl⟩, ?_⟩
  show 3 - ((n : Int) + 1).toNat < _
  omega
set_option maxHeartbeats 8000000 in
set_option maxRecDepth 1000000 in
theorem pre_ff_82 (g : Nat → Value) (s : ByteArray) (b f i B n fu dr : Nat) (x : LxS) (w : World) (Q0 : Exit → Act → World → Prop) (h : THead s b f i B x w) (hf3 : n + fu = 3) (hr : prefFrom s i fu false false n = prefOf s i) (hlt : i + n < s.size) (hn : n < 3) (hc : bt s (i + n) = 82) :
    Code.wp Tryz.prog tLoopP (Exit.then (fun a' w' => PInv s b i w a' w' ∧ 3 - (intOf (sl a' 9)).toNat < 3 - n) Q0) ⟨#[.pointer (some ⟨b, 0, none⟩), .bool false, g 2, g 3, g 4, g 5, g 6, .bool false, .bool false, .int .i64 (n : Int), g 10, g 11, g 12, g 13, g 14, g 15, g 16, g 17, g 18, g 19, g 20, g 21, g 22, g 23, g 24, g 25, g 26, g 27, g 28, g 29, g 30, g 31, g 32, g 33, g 34, g 35, g 36, g 37, g 38, g 39, g 40, g 41, g 42, g 43, g 44, g 45, g 46, g 47, g 48, g 49, g 50, g 51, g 52, g 53, g 54, g 55, g 56, g 57, g 58, g 59, g 60, g 61, g 62, g 63, g 64, g 65, g 66, g 67, g 68, g 69, g 70, g 71, g 72, g 73, g 74, g 75, g 76, g 77, g 78, g 79, g 80, g 81, g 82, g 83, g 84, g 85, g 86, g 87, g 88, g 89, g 90, g 91, g 92, g 93, g 94, g 95, g 96, g 97, g 98, g 99, g 100, g 101, g 102, g 103, g 104, g 105, g 106, g 107, g 108, g 109, g 110, g 111, g 112, g 113, g 114, g 115, g 116, g 117, g 118, g 119, g 120, g 121, g 122, g 123, g 124, g 125, g 126, g 127, g 128, g 129, g 130, g 131, g 132, g 133, g 134, g 135, g 136, g 137, g 138, g 139, g 140, g 141, g 142, g 143, g 144, g 145, g 146, g 147, g 148, g 149, g 150, g 151, g 152, g 153, g 154, g 155, g 156, g 157, g 158, g 159, g 160, g 161, g 162, g 163, g 164, g 165, g 166, g 167, g 168, g 169, g 170, g 171, g 172, g 173, g 174, g 175, g 176, g 177, g 178, g 179, g 180, g 181, g 182, g 183, g 184, g 185, g 186, g 187, g 188, g 189, g 190, g 191, g 192, g 193, g 194, g 195, g 196, g 197, g 198, g 199, g 200, g 201, g 202, g 203, g 204, g 205, g 206, g 207, g 208, g 209, g 210, g 211, g 212, g 213, g 214, g 215, g 216, g 217, g 218, g 219, g 220, g 221, g 222, g 223, g 224, g 225, g 226, g 227, g 228, g 229, g 230, g 231, g 232, g 233, g 234, g 235, g 236, g 237, g 238, g 239, g 240, g 241, g 242, g 243, g 244, g 245, g 246, g 247, g 248, g 249, g 250, g 251, g 252, g 253, g 254, g 255, g 256, g 257, g 258, g 259, g 260, g 261, g 262, g 263, g 264, g 265, g 266, g 267, g 268, g 269, g 270, g 271, g 272, g 273, g 274, g 275, g 276, g 277, g 278, g 279, g 280, g 281, g 282, g 283, g 284, g 285, g 286, g 287, g 288, g 289, g 290, g 291, g 292, g 293, g 294, g 295, g 296, g 297, g 298, g 299, g 300, g 301, g 302, g 303, g 304, g 305, g 306, g 307, g 308, g 309, g 310, g 311, g 312, g 313, g 314, g 315, g 316, g 317, g 318, g 319, g 320, g 321, g 322, g 323, g 324, g 325, g 326, g 327, g 328, g 329, g 330, g 331, g 332, g 333, g 334, g 335, g 336, g 337, g 338, g 339, g 340, g 341, g 342, g 343, g 344, g 345, g 346, g 347, g 348, g 349, g 350, g 351, g 352, g 353, g 354, g 355, g 356, g 357, g 358, g 359, g 360, g 361, g 362, g 363, g 364, g 365, g 366, g 367, g 368, g 369, g 370, g 371, g 372, g 373, g 374, g 375, g 376, g 377, g 378, g 379, g 380, g 381, g 382, g 383, g 384, g 385, g 386, g 387, g 388, g 389, g 390, g 391, g 392, g 393, g 394, g 395, g 396, g 397, g 398, g 399, g 400, g 401, g 402, g 403, g 404, g 405, g 406, g 407, g 408, g 409, g 410, g 411, g 412, g 413, g 414, g 415, g 416, g 417, g 418, g 419, g 420, g 421, g 422, g 423, g 424, g 425, g 426, g 427, g 428, g 429, g 430, g 431, g 432, g 433, g 434, g 435, g 436, g 437, g 438, g 439, g 440, g 441, g 442, g 443, g 444, g 445, g 446, g 447, g 448, g 449, g 450, g 451, g 452, g 453, g 454, g 455, g 456, g 457, g 458, g 459, g 460, g 461, g 462, g 463], []⟩ (w.drewN dr) := by
  conv => arg 2; whnf
  have hs := h.env.small
  have hnb : decide ((n : Int) < 3) = true := by simp; omega
  have Hc := Lib.hid hc
  clear hc
  have Hgo : Hid (prefFrom s i (fu - 1) true false (n + 1) = prefOf s i) := by
    show _ = _
    rw [← hr]
    obtain ⟨k, rfl⟩ : ∃ k, fu = k + 1 := ⟨fu - 1, by omega⟩
    exact (prefFrom_raw hlt (by have := Hc.out; omega)).symm
  clear hr
  go_wp2_with fail
  refine (h.peekOk dr n _ rfl (by omega)).mono ?_
  rintro e w' ⟨rfl, n1, rfl⟩
  rw [decide_eq_true hlt]
  go_wp2_with fail
  refine (h.peekIs n1 n _ 66 rfl (by omega)).mono ?_
  rintro e w' ⟨rfl, n2, rfl⟩
  rw [decide_eq_false (show ¬ (i + n < s.size ∧ bt s (i + n) = 66) from by have := Hc.out; omega)]
  go_wp2_with fail
  refine (h.peekIs n2 n _ 98 rfl (by omega)).mono ?_
  rintro e w' ⟨rfl, n3, rfl⟩
  rw [decide_eq_false (show ¬ (i + n < s.size ∧ bt s (i + n) = 98) from by have := Hc.out; omega)]
  go_wp2_with fail
  refine (h.peekIs n3 n _ 82 rfl (by omega)).mono ?_
  rintro e w' ⟨rfl, n4, rfl⟩
  rw [decide_eq_true (show (i + n < s.size ∧ bt s (i + n) = 82) from by have := Hc.out; omega)]
  go_wp2_with fail
  refine ⟨⟨rfl, rfl, rfl, rfl, n + 1, fu - 1, false, true, rfl, rfl, rfl, by omega, Hgo.out, _, rfl⟩, ?_⟩
  show 3 - ((n : Int) + 1).toNat < _
  omega
set_option maxHeartbeats 8000000 in
set_option maxRecDepth 1000000 in
theorem pre_ff_114 (g : Nat → Value) (s : ByteArray) (b f i B n fu dr : Nat) (x : LxS) (w : World) (Q0 : Exit → Act → World → Prop) (h : THead s b f i B x w) (hf3 : n + fu = 3) (hr : prefFrom s i fu false false n = prefOf s i) (hlt : i + n < s.size) (hn : n < 3) (hc : bt s (i + n) = 114) :
    Code.wp Tryz.prog tLoopP (Exit.then (fun a' w' => PInv s b i w a' w' ∧ 3 - (intOf (sl a' 9)).toNat < 3 - n) Q0) ⟨#[.pointer (some ⟨b, 0, none⟩), .bool false, g 2, g 3, g 4, g 5, g 6, .bool false, .bool false, .int .i64 (n : Int), g 10, g 11, g 12, g 13, g 14, g 15, g 16, g 17, g 18, g 19, g 20, g 21, g 22, g 23, g 24, g 25, g 26, g 27, g 28, g 29, g 30, g 31, g 32, g 33, g 34, g 35, g 36, g 37, g 38, g 39, g 40, g 41, g 42, g 43, g 44, g 45, g 46, g 47, g 48, g 49, g 50, g 51, g 52, g 53, g 54, g 55, g 56, g 57, g 58, g 59, g 60, g 61, g 62, g 63, g 64, g 65, g 66, g 67, g 68, g 69, g 70, g 71, g 72, g 73, g 74, g 75, g 76, g 77, g 78, g 79, g 80, g 81, g 82, g 83, g 84, g 85, g 86, g 87, g 88, g 89, g 90, g 91, g 92, g 93, g 94, g 95, g 96, g 97, g 98, g 99, g 100, g 101, g 102, g 103, g 104, g 105, g 106, g 107, g 108, g 109, g 110, g 111, g 112, g 113, g 114, g 115, g 116, g 117, g 118, g 119, g 120, g 121, g 122, g 123, g 124, g 125, g 126, g 127, g 128, g 129, g 130, g 131, g 132, g 133, g 134, g 135, g 136, g 137, g 138, g 139, g 140, g 141, g 142, g 143, g 144, g 145, g 146, g 147, g 148, g 149, g 150, g 151, g 152, g 153, g 154, g 155, g 156, g 157, g 158, g 159, g 160, g 161, g 162, g 163, g 164, g 165, g 166, g 167, g 168, g 169, g 170, g 171, g 172, g 173, g 174, g 175, g 176, g 177, g 178, g 179, g 180, g 181, g 182, g 183, g 184, g 185, g 186, g 187, g 188, g 189, g 190, g 191, g 192, g 193, g 194, g 195, g 196, g 197, g 198, g 199, g 200, g 201, g 202, g 203, g 204, g 205, g 206, g 207, g 208, g 209, g 210, g 211, g 212, g 213, g 214, g 215, g 216, g 217, g 218, g 219, g 220, g 221, g 222, g 223, g 224, g 225, g 226, g 227, g 228, g 229, g 230, g 231, g 232, g 233, g 234, g 235, g 236, g 237, g 238, g 239, g 240, g 241, g 242, g 243, g 244, g 245, g 246, g 247, g 248, g 249, g 250, g 251, g 252, g 253, g 254, g 255, g 256, g 257, g 258, g 259, g 260, g 261, g 262, g 263, g 264, g 265, g 266, g 267, g 268, g 269, g 270, g 271, g 272, g 273, g 274, g 275, g 276, g 277, g 278, g 279, g 280, g 281, g 282, g 283, g 284, g 285, g 286, g 287, g 288, g 289, g 290, g 291, g 292, g 293, g 294, g 295, g 296, g 297, g 298, g 299, g 300, g 301, g 302, g 303, g 304, g 305, g 306, g 307, g 308, g 309, g 310, g 311, g 312, g 313, g 314, g 315, g 316, g 317, g 318, g 319, g 320, g 321, g 322, g 323, g 324, g 325, g 326, g 327, g 328, g 329, g 330, g 331, g 332, g 333, g 334, g 335, g 336, g 337, g 338, g 339, g 340, g 341, g 342, g 343, g 344, g 345, g 346, g 347, g 348, g 349, g 350, g 351, g 352, g 353, g 354, g 355, g 356, g 357, g 358, g 359, g 360, g 361, g 362, g 363, g 364, g 365, g 366, g 367, g 368, g 369, g 370, g 371, g 372, g 373, g 374, g 375, g 376, g 377, g 378, g 379, g 380, g 381, g 382, g 383, g 384, g 385, g 386, g 387, g 388, g 389, g 390, g 391, g 392, g 393, g 394, g 395, g 396, g 397, g 398, g 399, g 400, g 401, g 402, g 403, g 404, g 405, g 406, g 407, g 408, g 409, g 410, g 411, g 412, g 413, g 414, g 415, g 416, g 417, g 418, g 419, g 420, g 421, g 422, g 423, g 424, g 425, g 426, g 427, g 428, g 429, g 430, g 431, g 432, g 433, g 434, g 435, g 436, g 437, g 438, g 439, g 440, g 441, g 442, g 443, g 444, g 445, g 446, g 447, g 448, g 449, g 450, g 451, g 452, g 453, g 454, g 455, g 456, g 457, g 458, g 459, g 460, g 461, g 462, g 463], []⟩ (w.drewN dr) := by
  conv => arg 2; whnf
  have hs := h.env.small
  have hnb : decide ((n : Int) < 3) = true := by simp; omega
  have Hc := Lib.hid hc
  clear hc
  have Hgo : Hid (prefFrom s i (fu - 1) true false (n + 1) = prefOf s i) := by
    show _ = _
    rw [← hr]
    obtain ⟨k, rfl⟩ : ∃ k, fu = k + 1 := ⟨fu - 1, by omega⟩
    exact (prefFrom_raw hlt (by have := Hc.out; omega)).symm
  clear hr
  go_wp2_with fail
  refine (h.peekOk dr n _ rfl (by omega)).mono ?_
  rintro e w' ⟨rfl, n1, rfl⟩
  rw [decide_eq_true hlt]
  go_wp2_with fail
  refine (h.peekIs n1 n _ 66 rfl (by omega)).mono ?_
  rintro e w' ⟨rfl, n2, rfl⟩
  rw [decide_eq_false (show ¬ (i + n < s.size ∧ bt s (i + n) = 66) from by have := Hc.out; omega)]
  go_wp2_with fail
  refine (h.peekIs n2 n _ 98 rfl (by omega)).mono ?_
  rintro e w' ⟨rfl, n3, rfl⟩
  rw [decide_eq_false (show ¬ (i + n < s.size ∧ bt s (i + n) = 98) from by have := Hc.out; omega)]
  go_wp2_with fail
  refine (h.peekIs n3 n _ 82 rfl (by omega)).mono ?_
  rintro e w' ⟨rfl, n4, rfl⟩
  rw [decide_eq_false (show ¬ (i + n < s.size ∧ bt s (i + n) = 82) from by have := Hc.out; omega)]
  go_wp2_with fail
  refine (h.peekIs n4 n _ 114 rfl (by omega)).mono ?_
  rintro e w' ⟨rfl, n5, rfl⟩
  rw [decide_eq_true (show (i + n < s.size ∧ bt s (i + n) = 114) from by have := Hc.out; omega)]
  go_wp2_with fail
  refine ⟨⟨rfl, rfl, rfl, rfl, n + 1, fu - 1, false, true, rfl, rfl, rfl, by omega, Hgo.out, _, rfl⟩, ?_⟩
  show 3 - ((n : Int) + 1).toNat < _
  omega
set_option maxHeartbeats 8000000 in
set_option maxRecDepth 1000000 in
theorem pre_ff_34 (g : Nat → Value) (s : ByteArray) (b f i B n fu dr : Nat) (x : LxS) (w : World) (Q0 : Exit → Act → World → Prop) (h : THead s b f i B x w) (hf3 : n + fu = 3) (hr : prefFrom s i fu false false n = prefOf s i) (hlt : i + n < s.size) (hn : n < 3) (hc : bt s (i + n) = 34) (after : Bool) (hret : ∀ p, prefOf s i = some p → ∀ a' w', a'.defers = [] → Step b f x B (tokStep x after (quotTok s (i + p.1) p.2.1 p.2.2)) w (.returned (.tuple #[])) w' → Q0 .ret a' w')
    (hpan : ∀ p, prefOf s i = some p → ∀ a' w' ch, a'.defers = [] → Step b f x B (tokStep x after (quotTok s (i + p.1) p.2.1 p.2.2)) w (.panicked ch) w' → Q0 (.panic ch) a' w') :
    Code.wp Tryz.prog tLoopP (Exit.then (fun a' w' => PInv s b i w a' w' ∧ 3 - (intOf (sl a' 9)).toNat < 3 - n) Q0) ⟨#[.pointer (some ⟨b, 0, none⟩), .bool false, g 2, g 3, g 4, g 5, g 6, .bool false, .bool false, .int .i64 (n : Int), g 10, g 11, g 12, g 13, g 14, g 15, g 16, g 17, g 18, g 19, g 20, g 21, g 22, g 23, g 24, g 25, g 26, g 27, g 28, g 29, g 30, g 31, g 32, g 33, g 34, g 35, g 36, g 37, g 38, g 39, g 40, g 41, g 42, g 43, g 44, g 45, g 46, g 47, g 48, g 49, g 50, g 51, g 52, g 53, g 54, g 55, g 56, g 57, g 58, g 59, g 60, g 61, g 62, g 63, g 64, g 65, g 66, g 67, g 68, g 69, g 70, g 71, g 72, g 73, g 74, g 75, g 76, g 77, g 78, g 79, g 80, g 81, g 82, g 83, g 84, g 85, g 86, g 87, g 88, g 89, g 90, g 91, g 92, g 93, g 94, g 95, g 96, g 97, g 98, g 99, g 100, g 101, g 102, g 103, g 104, g 105, g 106, g 107, g 108, g 109, g 110, g 111, g 112, g 113, g 114, g 115, g 116, g 117, g 118, g 119, g 120, g 121, g 122, g 123, g 124, g 125, g 126, g 127, g 128, g 129, g 130, g 131, g 132, g 133, g 134, g 135, g 136, g 137, g 138, g 139, g 140, g 141, g 142, g 143, g 144, g 145, g 146, g 147, g 148, g 149, g 150, g 151, g 152, g 153, g 154, g 155, g 156, g 157, g 158, g 159, g 160, g 161, g 162, g 163, g 164, g 165, g 166, g 167, g 168, g 169, g 170, g 171, g 172, g 173, g 174, g 175, g 176, g 177, g 178, g 179, g 180, g 181, g 182, g 183, g 184, g 185, g 186, g 187, g 188, g 189, g 190, g 191, g 192, g 193, g 194, g 195, g 196, g 197, g 198, g 199, g 200, g 201, g 202, g 203, g 204, g 205, g 206, g 207, g 208, g 209, g 210, g 211, g 212, g 213, g 214, g 215, g 216, g 217, g 218, g 219, g 220, g 221, g 222, g 223, g 224, g 225, g 226, g 227, g 228, g 229, g 230, g 231, g 232, g 233, g 234, g 235, g 236, g 237, g 238, g 239, g 240, g 241, g 242, g 243, g 244, g 245, g 246, g 247, g 248, g 249, g 250, g 251, g 252, g 253, g 254, g 255, g 256, g 257, g 258, g 259, g 260, g 261, g 262, g 263, g 264, g 265, g 266, g 267, g 268, g 269, g 270, g 271, g 272, g 273, g 274, g 275, g 276, g 277, g 278, g 279, g 280, g 281, g 282, g 283, g 284, g 285, g 286, g 287, g 288, g 289, g 290, g 291, g 292, g 293, g 294, g 295, g 296, g 297, g 298, g 299, g 300, g 301, g 302, g 303, g 304, g 305, g 306, g 307, g 308, g 309, g 310, g 311, g 312, g 313, g 314, g 315, g 316, g 317, g 318, g 319, g 320, g 321, g 322, g 323, g 324, g 325, g 326, g 327, g 328, g 329, g 330, g 331, g 332, g 333, g 334, g 335, g 336, g 337, g 338, g 339, g 340, g 341, g 342, g 343, g 344, g 345, g 346, g 347, g 348, g 349, g 350, g 351, g 352, g 353, g 354, g 355, g 356, g 357, g 358, g 359, g 360, g 361, g 362, g 363, g 364, g 365, g 366, g 367, g 368, g 369, g 370, g 371, g 372, g 373, g 374, g 375, g 376, g 377, g 378, g 379, g 380, g 381, g 382, g 383, g 384, g 385, g 386, g 387, g 388, g 389, g 390, g 391, g 392, g 393, g 394, g 395, g 396, g 397, g 398, g 399, g 400, g 401, g 402, g 403, g 404, g 405, g 406, g 407, g 408, g 409, g 410, g 411, g 412, g 413, g 414, g 415, g 416, g 417, g 418, g 419, g 420, g 421, g 422, g 423, g 424, g 425, g 426, g 427, g 428, g 429, g 430, g 431, g 432, g 433, g 434, g 435, g 436, g 437, g 438, g 439, g 440, g 441, g 442, g 443, g 444, g 445, g 446, g 447, g 448, g 449, g 450, g 451, g 452, g 453, g 454, g 455, g 456, g 457, g 458, g 459, g 460, g 461, g 462, g 463], []⟩ (w.drewN dr) := by
  conv => arg 2; whnf
  have hs := h.env.small
  have hnb : decide ((n : Int) < 3) = true := by simp; omega
  have Hc := Lib.hid hc
  clear hc
  have Hpr : Hid (prefOf s i = some (n, false, false)) := by
    show _ = _
    rw [← hr]
    obtain ⟨k, rfl⟩ : ∃ k, fu = k + 1 := ⟨fu - 1, by omega⟩
    exact prefFrom_quote hlt (by have := Hc.out; omega)
  have Hret := Lib.hid (hret _ Hpr.out)
  have Hpan := Lib.hid (hpan _ Hpr.out)
  clear hret hpan
  clear hr
  go_wp2_with fail
  refine (h.peekOk dr n _ rfl (by omega)).mono ?_
  rintro e w' ⟨rfl, n1, rfl⟩
  rw [decide_eq_true hlt]
  go_wp2_with fail
  refine (h.peekIs n1 n _ 66 rfl (by omega)).mono ?_
  rintro e w' ⟨rfl, n2, rfl⟩
  rw [decide_eq_false (show ¬ (i + n < s.size ∧ bt s (i + n) = 66) from by have := Hc.out; omega)]
  go_wp2_with fail
  refine (h.peekIs n2 n _ 98 rfl (by omega)).mono ?_
  rintro e w' ⟨rfl, n3, rfl⟩
  rw [decide_eq_false (show ¬ (i + n < s.size ∧ bt s (i + n) = 98) from by have := Hc.out; omega)]
  go_wp2_with fail
  refine (h.peekIs n3 n _ 82 rfl (by omega)).mono ?_
  rintro e w' ⟨rfl, n4, rfl⟩
  rw [decide_eq_false (show ¬ (i + n < s.size ∧ bt s (i + n) = 82) from by have := Hc.out; omega)]
  go_wp2_with fail
  refine (h.peekIs n4 n _ 114 rfl (by omega)).mono ?_
  rintro e w' ⟨rfl, n5, rfl⟩
  rw [decide_eq_false (show ¬ (i + n < s.size ∧ bt s (i + n) = 114) from by have := Hc.out; omega)]
  go_wp2_with fail
  refine (h.peekIs n5 n _ 34 rfl (by omega)).mono ?_
  rintro e w' ⟨rfl, n6, rfl⟩
  rw [decide_eq_true (show (i + n < s.size ∧ bt s (i + n) = 34) from by have := Hc.out; omega)]
  go_wp2_with fail
  refine (h.skipN n6 n _ rfl (by omega)).mono ?_
  rintro e w' ⟨rfl, hw⟩
  have hx2 := ((h.dn n6).lx).setPos ((i + n : Nat) : Int)
  have hO2 := ((Only.refl b w).dn n6).setCell 9 (.int .i64 ((i + n : Nat) : Int))
  obtain ⟨W, hW⟩ : ∃ W, (w.drewN n6).setCell ⟨b, 9, none⟩ (.int .i64 ((i + n : Nat) : Int)) = W := ⟨_, rfl⟩
  rw [hW] at hx2 hO2 hw
  replace hw := hw.symm
  subst hw
  clear hW
  have h3 : THead s b f (i + n) B { x with pos := ((i + n : Nat) : Int) } W := ⟨h.env.only hO2, hx2, rfl, by omega, h.ok, h.esc⟩
  have H3 := Lib.hid h3
  have HO2 := Lib.hid hO2
  clear hx2 hO2 h3
  go_wp2_with fail
  refine (consumeString_c s b f (i + n) B { x with pos := ((i + n : Nat) : Int) } after W H3.out hlt (by have := Hc.out; omega)).mono ?_
  rintro e w' k
  rw [tokStep_pos] at k
  have k2 := k.low (y := x) HO2.out h.lx h.env.bb h.env.bw
  clear k
  rcases k2.shape with rfl | ⟨v, rfl⟩
  · have K2 := Lib.hid k2
    clear k2
    go_wp2_with fail
    exact Hret.out _ _ rfl K2.out
  · exact Hpan.out _ _ _ rfl k2
set_option maxHeartbeats 8000000 in
set_option maxRecDepth 1000000 in
theorem pre_ff_39 (g : Nat → Value) (s : ByteArray) (b f i B n fu dr : Nat) (x : LxS) (w : World) (Q0 : Exit → Act → World → Prop) (h : THead s b f i B x w) (hf3 : n + fu = 3) (hr : prefFrom s i fu false false n = prefOf s i) (hlt : i + n < s.size) (hn : n < 3) (hc : bt s (i + n) = 39) (after : Bool) (hret : ∀ p, prefOf s i = some p → ∀ a' w', a'.defers = [] → Step b f x B (tokStep x after (quotTok s (i + p.1) p.2.1 p.2.2)) w (.returned (.tuple #[])) w' → Q0 .ret a' w')
    (hpan : ∀ p, prefOf s i = some p → ∀ a' w' ch, a'.defers = [] → Step b f x B (tokStep x after (quotTok s (i + p.1) p.2.1 p.2.2)) w (.panicked ch) w' → Q0 (.panic ch) a' w') :
    Code.wp Tryz.prog tLoopP (Exit.then (fun a' w' => PInv s b i w a' w' ∧ 3 - (intOf (sl a' 9)).toNat < 3 - n) Q0) ⟨#[.pointer (some ⟨b, 0, none⟩), .bool false, g 2, g 3, g 4, g 5, g 6, .bool false, .bool false, .int .i64 (n : Int), g 10, g 11, g 12, g 13, g 14, g 15, g 16, g 17, g 18, g 19, g 20, g 21, g 22, g 23, g 24, g 25, g 26, g 27, g 28, g 29, g 30, g 31, g 32, g 33, g 34, g 35, g 36, g 37, g 38, g 39, g 40, g 41, g 42, g 43, g 44, g 45, g 46, g 47, g 48, g 49, g 50, g 51, g 52, g 53, g 54, g 55, g 56, g 57, g 58, g 59, g 60, g 61, g 62, g 63, g 64, g 65, g 66, g 67, g 68, g 69, g 70, g 71, g 72, g 73, g 74, g 75, g 76, g 77, g 78, g 79, g 80, g 81, g 82, g 83, g 84, g 85, g 86, g 87, g 88, g 89, g 90, g 91, g 92, g 93, g 94, g 95, g 96, g 97, g 98, g 99, g 100, g 101, g 102, g 103, g 104, g 105, g 106, g 107, g 108, g 109, g 110, g 111, g 112, g 113, g 114, g 115, g 116, g 117, g 118, g 119, g 120, g 121, g 122, g 123, g 124, g 125, g 126, g 127, g 128, g 129, g 130, g 131, g 132, g 133, g 134, g 135, g 136, g 137, g 138, g 139, g 140, g 141, g 142, g 143, g 144, g 145, g 146, g 147, g 148, g 149, g 150, g 151, g 152, g 153, g 154, g 155, g 156, g 157, g 158, g 159, g 160, g 161, g 162, g 163, g 164, g 165, g 166, g 167, g 168, g 169, g 170, g 171, g 172, g 173, g 174, g 175, g 176, g 177, g 178, g 179, g 180, g 181, g 182, g 183, g 184, g 185, g 186, g 187, g 188, g 189, g 190, g 191, g 192, g 193, g 194, g 195, g 196, g 197, g 198, g 199, g 200, g 201, g 202, g 203, g 204, g 205, g 206, g 207, g 208, g 209, g 210, g 211, g 212, g 213, g 214, g 215, g 216, g 217, g 218, g 219, g 220, g 221, g 222, g 223, g 224, g 225, g 226, g 227, g 228, g 229, g 230, g 231, g 232, g 233, g 234, g 235, g 236, g 237, g 238, g 239, g 240, g 241, g 242, g 243, g 244, g 245, g 246, g 247, g 248, g 249, g 250, g 251, g 252, g 253, g 254, g 255, g 256, g 257, g 258, g 259, g 260, g 261, g 262, g 263, g 264, g 265, g 266, g 267, g 268, g 269, g 270, g 271, g 272, g 273, g 274, g 275, g 276, g 277, g 278, g 279, g 280, g 281, g 282, g 283, g 284, g 285, g 286, g 287, g 288, g 289, g 290, g 291, g 292, g 293, g 294, g 295, g 296, g 297, g 298, g 299, g 300, g 301, g 302, g 303, g 304, g 305, g 306, g 307, g 308, g 309, g 310, g 311, g 312, g 313, g 314, g 315, g 316, g 317, g 318, g 319, g 320, g 321, g 322, g 323, g 324, g 325, g 326, g 327, g 328, g 329, g 330, g 331, g 332, g 333, g 334, g 335, g 336, g 337, g 338, g 339, g 340, g 341, g 342, g 343, g 344, g 345, g 346, g 347, g 348, g 349, g 350, g 351, g 352, g 353, g 354, g 355, g 356, g 357, g 358, g 359, g 360, g 361, g 362, g 363, g 364, g 365, g 366, g 367, g 368, g 369, g 370, g 371, g 372, g 373, g 374, g 375, g 376, g 377, g 378, g 379, g 380, g 381, g 382, g 383, g 384, g 385, g 386, g 387, g 388, g 389, g 390, g 391, g 392, g 393, g 394, g 395, g 396, g 397, g 398, g 399, g 400, g 401, g 402, g 403, g 404, g 405, g 406, g 407, g 408, g 409, g 410, g 411, g 412, g 413, g 414, g 415, g 416, g 417, g 418, g 419, g 420, g 421, g 422, g 423, g 424, g 425, g 426, g 427, g 428, g 429, g 430, g 431, g 432, g 433, g 434, g 435, g 436, g 437, g 438, g 439, g 440, g 441, g 442, g 443, g 444, g 445, g 446, g 447, g 448, g 449, g 450, g 451, g 452, g 453, g 454, g 455, g 456, g 457, g 458, g 459, g 460, g 461, g 462, g 463], []⟩ (w.drewN dr) := by
  conv => arg 2; whnf
  have hs := h.env.small
  have hnb : decide ((n : Int) < 3) = true := by simp; omega
  have Hc := Lib.hid hc
  clear hc
  have Hpr : Hid (prefOf s i = some (n, false, false)) := by
    show _ = _
    rw [← hr]
    obtain ⟨k, rfl⟩ : ∃ k, fu = k + 1 := ⟨fu - 1, by omega⟩
    exact prefFrom_quote hlt (by have := Hc.out; omega)
  have Hret := Lib.hid (hret _ Hpr.out)
  have Hpan := Lib.hid (hpan _ Hpr.out)
  clear hret hpan
  clear hr
  go_wp2_with fail
  refine (h.peekOk dr n _ rfl (by omega)).mono ?_
  rintro e w' ⟨rfl, n1, rfl⟩
  rw [decide_eq_true hlt]
  go_wp2_with fail
  refine (h.peekIs n1 n _ 66 rfl (by omega)).mono ?_
  rintro e w' ⟨rfl, n2, rfl⟩
  rw [decide_eq_false (show ¬ (i + n < s.size ∧ bt s (i + n) = 66) from by have := Hc.out; omega)]
  go_wp2_with fail
  refine (h.peekIs n2 n _ 98 rfl (by omega)).mono ?_
  rintro e w' ⟨rfl, n3, rfl⟩
  rw [decide_eq_false (show ¬ (i + n < s.size ∧ bt s (i + n) = 98) from by have := Hc.out; omega)]
  go_wp2_with fail
  refine (h.peekIs n3 n _ 82 rfl (by omega)).mono ?_
  rintro e w' ⟨rfl, n4, rfl⟩
  rw [decide_eq_false (show ¬ (i + n < s.size ∧ bt s (i + n) = 82) from by have := Hc.out; omega)]
  go_wp2_with fail
  refine (h.peekIs n4 n _ 114 rfl (by omega)).mono ?_
  rintro e w' ⟨rfl, n5, rfl⟩
  rw [decide_eq_false (show ¬ (i + n < s.size ∧ bt s (i + n) = 114) from by have := Hc.out; omega)]
  go_wp2_with fail
  refine (h.peekIs n5 n _ 34 rfl (by omega)).mono ?_
  rintro e w' ⟨rfl, n6, rfl⟩
  rw [decide_eq_false (show ¬ (i + n < s.size ∧ bt s (i + n) = 34) from by have := Hc.out; omega)]
  go_wp2_with fail
  refine (h.peekIs n6 n _ 39 rfl (by omega)).mono ?_
  rintro e w' ⟨rfl, n7, rfl⟩
  rw [decide_eq_true (show (i + n < s.size ∧ bt s (i + n) = 39) from by have := Hc.out; omega)]
  go_wp2_with fail
  refine (h.skipN n7 n _ rfl (by omega)).mono ?_
  rintro e w' ⟨rfl, hw⟩
  have hx2 := ((h.dn n7).lx).setPos ((i + n : Nat) : Int)
  have hO2 := ((Only.refl b w).dn n7).setCell 9 (.int .i64 ((i + n : Nat) : Int))
  obtain ⟨W, hW⟩ : ∃ W, (w.drewN n7).setCell ⟨b, 9, none⟩ (.int .i64 ((i + n : Nat) : Int)) = W := ⟨_, rfl⟩
  rw [hW] at hx2 hO2 hw
  replace hw := hw.symm
  subst hw
  clear hW
  have h3 : THead s b f (i + n) B { x with pos := ((i + n : Nat) : Int) } W := ⟨h.env.only hO2, hx2, rfl, by omega, h.ok, h.esc⟩
  have H3 := Lib.hid h3
  have HO2 := Lib.hid hO2
  clear hx2 hO2 h3
  go_wp2_with fail
  refine (consumeString_c s b f (i + n) B { x with pos := ((i + n : Nat) : Int) } after W H3.out hlt (by have := Hc.out; omega)).mono ?_
  rintro e w' k
  rw [tokStep_pos] at k
  have k2 := k.low (y := x) HO2.out h.lx h.env.bb h.env.bw
  clear k
  rcases k2.shape with rfl | ⟨v, rfl⟩
  · have K2 := Lib.hid k2
    clear k2
    go_wp2_with fail
    exact Hret.out _ _ rfl K2.out
  · exact Hpan.out _ _ _ rfl k2
set_option maxHeartbeats 8000000 in
set_option maxRecDepth 1000000 in
theorem pre_ff_no (g : Nat → Value) (s : ByteArray) (b f i B n fu dr : Nat) (x : LxS) (w : World) (Q0 : Exit → Act → World → Prop) (h : THead s b f i B x w) (hf3 : n + fu = 3) (hr : prefFrom s i fu false false n = prefOf s i) (hlt : i + n < s.size) (hn : n < 3) (hb : bt s (i + n) ≠ 66 ∧ bt s (i + n) ≠ 98) (hw : bt s (i + n) ≠ 82 ∧ bt s (i + n) ≠ 114) (hq : bt s (i + n) ≠ 34 ∧ bt s (i + n) ≠ 39) (hexit : prefOf s i = none → ∀ a' w', a'.tmps.toList.length = 464 → a'.defers = [] → sl a' 0 = .pointer (some ⟨b, 0, none⟩) → sl a' 1 = .bool false → (∃ dr, w' = w.drewN dr) → Q0 (.exit 9) a' w') :
    Code.wp Tryz.prog tLoopP (Exit.then (fun a' w' => PInv s b i w a' w' ∧ 3 - (intOf (sl a' 9)).toNat < 3 - n) Q0) ⟨#[.pointer (some ⟨b, 0, none⟩), .bool false, g 2, g 3, g 4, g 5, g 6, .bool false, .bool false, .int .i64 (n : Int), g 10, g 11, g 12, g 13, g 14, g 15, g 16, g 17, g 18, g 19, g 20, g 21, g 22, g 23, g 24, g 25, g 26, g 27, g 28, g 29, g 30, g 31, g 32, g 33, g 34, g 35, g 36, g 37, g 38, g 39, g 40, g 41, g 42, g 43, g 44, g 45, g 46, g 47, g 48, g 49, g 50, g 51, g 52, g 53, g 54, g 55, g 56, g 57, g 58, g 59, g 60, g 61, g 62, g 63, g 64, g 65, g 66, g 67, g 68, g 69, g 70, g 71, g 72, g 73, g 74, g 75, g 76, g 77, g 78, g 79, g 80, g 81, g 82, g 83, g 84, g 85, g 86, g 87, g 88, g 89, g 90, g 91, g 92, g 93, g 94, g 95, g 96, g 97, g 98, g 99, g 100, g 101, g 102, g 103, g 104, g 105, g 106, g 107, g 108, g 109, g 110, g 111, g 112, g 113, g 114, g 115, g 116, g 117, g 118, g 119, g 120, g 121, g 122, g 123, g 124, g 125, g 126, g 127, g 128, g 129, g 130, g 131, g 132, g 133, g 134, g 135, g 136, g 137, g 138, g 139, g 140, g 141, g 142, g 143, g 144, g 145, g 146, g 147, g 148, g 149, g 150, g 151, g 152, g 153, g 154, g 155, g 156, g 157, g 158, g 159, g 160, g 161, g 162, g 163, g 164, g 165, g 166, g 167, g 168, g 169, g 170, g 171, g 172, g 173, g 174, g 175, g 176, g 177, g 178, g 179, g 180, g 181, g 182, g 183, g 184, g 185, g 186, g 187, g 188, g 189, g 190, g 191, g 192, g 193, g 194, g 195, g 196, g 197, g 198, g 199, g 200, g 201, g 202, g 203, g 204, g 205, g 206, g 207, g 208, g 209, g 210, g 211, g 212, g 213, g 214, g 215, g 216, g 217, g 218, g 219, g 220, g 221, g 222, g 223, g 224, g 225, g 226, g 227, g 228, g 229, g 230, g 231, g 232, g 233, g 234, g 235, g 236, g 237, g 238, g 239, g 240, g 241, g 242, g 243, g 244, g 245, g 246, g 247, g 248, g 249, g 250, g 251, g 252, g 253, g 254, g 255, g 256, g 257, g 258, g 259, g 260, g 261, g 262, g 263, g 264, g 265, g 266, g 267, g 268, g 269, g 270, g 271, g 272, g 273, g 274, g 275, g 276, g 277, g 278, g 279, g 280, g 281, g 282, g 283, g 284, g 285, g 286, g 287, g 288, g 289, g 290, g 291, g 292, g 293, g 294, g 295, g 296, g 297, g 298, g 299, g 300, g 301, g 302, g 303, g 304, g 305, g 306, g 307, g 308, g 309, g 310, g 311, g 312, g 313, g 314, g 315, g 316, g 317, g 318, g 319, g 320, g 321, g 322, g 323, g 324, g 325, g 326, g 327, g 328, g 329, g 330, g 331, g 332, g 333, g 334, g 335, g 336, g 337, g 338, g 339, g 340, g 341, g 342, g 343, g 344, g 345, g 346, g 347, g 348, g 349, g 350, g 351, g 352, g 353, g 354, g 355, g 356, g 357, g 358, g 359, g 360, g 361, g 362, g 363, g 364, g 365, g 366, g 367, g 368, g 369, g 370, g 371, g 372, g 373, g 374, g 375, g 376, g 377, g 378, g 379, g 380, g 381, g 382, g 383, g 384, g 385, g 386, g 387, g 388, g 389, g 390, g 391, g 392, g 393, g 394, g 395, g 396, g 397, g 398, g 399, g 400, g 401, g 402, g 403, g 404, g 405, g 406, g 407, g 408, g 409, g 410, g 411, g 412, g 413, g 414, g 415, g 416, g 417, g 418, g 419, g 420, g 421, g 422, g 423, g 424, g 425, g 426, g 427, g 428, g 429, g 430, g 431, g 432, g 433, g 434, g 435, g 436, g 437, g 438, g 439, g 440, g 441, g 442, g 443, g 444, g 445, g 446, g 447, g 448, g 449, g 450, g 451, g 452, g 453, g 454, g 455, g 456, g 457, g 458, g 459, g 460, g 461, g 462, g 463], []⟩ (w.drewN dr) := by
  conv => arg 2; whnf
  have hs := h.env.small
  have hnb : decide ((n : Int) < 3) = true := by simp; omega
  have Hno : Hid (prefOf s i = none) := by
    show _ = _
    rw [← hr]
    obtain ⟨k, rfl⟩ : ∃ k, fu = k + 1 := ⟨fu - 1, by omega⟩
    exact prefFrom_none hlt (by omega) (by omega) (by omega)
  have Hx := Lib.hid hexit
  clear hexit
  have Hhb := Lib.hid hb
  clear hb
  have Hhw := Lib.hid hw
  clear hw
  have Hhq := Lib.hid hq
  clear hq
  clear hr
  go_wp2_with fail
  refine (h.peekOk dr n _ rfl (by omega)).mono ?_
  rintro e w' ⟨rfl, n1, rfl⟩
  rw [decide_eq_true hlt]
  go_wp2_with fail
  refine (h.peekIs n1 n _ 66 rfl (by omega)).mono ?_
  rintro e w' ⟨rfl, n2, rfl⟩
  rw [decide_eq_false (show ¬ (i + n < s.size ∧ bt s (i + n) = 66) from fun k => by have := Hhb.out; omega)]
  go_wp2_with fail
  refine (h.peekIs n2 n _ 98 rfl (by omega)).mono ?_
  rintro e w' ⟨rfl, n3, rfl⟩
  rw [decide_eq_false (show ¬ (i + n < s.size ∧ bt s (i + n) = 98) from fun k => by have := Hhb.out; omega)]
  go_wp2_with fail
  refine (h.peekIs n3 n _ 82 rfl (by omega)).mono ?_
  rintro e w' ⟨rfl, n4, rfl⟩
  rw [decide_eq_false (show ¬ (i + n < s.size ∧ bt s (i + n) = 82) from fun k => by have := Hhw.out; omega)]
  go_wp2_with fail
  refine (h.peekIs n4 n _ 114 rfl (by omega)).mono ?_
  rintro e w' ⟨rfl, n5, rfl⟩
  rw [decide_eq_false (show ¬ (i + n < s.size ∧ bt s (i + n) = 114) from fun k => by have := Hhw.out; omega)]
  go_wp2_with fail
  refine (h.peekIs n5 n _ 34 rfl (by omega)).mono ?_
  rintro e w' ⟨rfl, n6, rfl⟩
  rw [decide_eq_false (show ¬ (i + n < s.size ∧ bt s (i + n) = 34) from fun k => by have := Hhq.out; omega)]
  go_wp2_with fail
  refine (h.peekIs n6 n _ 39 rfl (by omega)).mono ?_
  rintro e w' ⟨rfl, n7, rfl⟩
  rw [decide_eq_false (show ¬ (i + n < s.size ∧ bt s (i + n) = 39) from fun k => by have := Hhq.out; omega)]
  go_wp2_with fail
  exact Hx.out Hno.out _ _ rfl rfl rfl rfl ⟨_, rfl⟩
set_option maxHeartbeats 8000000 in
set_option maxRecDepth 1000000 in
theorem pre_ft_66 (g : Nat → Value) (s : ByteArray) (b f i B n fu dr : Nat) (x : LxS) (w : World) (Q0 : Exit → Act → World → Prop) (h : THead s b f i B x w) (hf3 : n + fu = 3) (hr : prefFrom s i fu true false n = prefOf s i) (hlt : i + n < s.size) (hn : n < 3) (hc : bt s (i + n) = 66) :
    Code.wp Tryz.prog tLoopP (Exit.then (fun a' w' => PInv s b i w a' w' ∧ 3 - (intOf (sl a' 9)).toNat < 3 - n) Q0) ⟨#[.pointer (some ⟨b, 0, none⟩), .bool false, g 2, g 3, g 4, g 5, g 6, .bool false, .bool true, .int .i64 (n : Int), g 10, g 11, g 12, g 13, g 14, g 15, g 16, g 17, g 18, g 19, g 20, g 21, g 22, g 23, g 24, g 25, g 26, g 27, g 28, g 29, g 30, g 31, g 32, g 33, g 34, g 35, g 36, g 37, g 38, g 39, g 40, g 41, g 42, g 43, g 44, g 45, g 46, g 47, g 48, g 49, g 50, g 51, g 52, g 53, g 54, g 55, g 56, g 57, g 58, g 59, g 60, g 61, g 62, g 63, g 64, g 65, g 66, g 67, g 68, g 69, g 70, g 71, g 72, g 73, g 74, g 75, g 76, g 77, g 78, g 79, g 80, g 81, g 82, g 83, g 84, g 85, g 86, g 87, g 88, g 89, g 90, g 91, g 92, g 93, g 94, g 95, g 96, g 97, g 98, g 99, g 100, g 101, g 102, g 103, g 104, g 105, g 106, g 107, g 108, g 109, g 110, g 111, g 112, g 113, g 114, g 115, g 116, g 117, g 118, g 119, g 120, g 121, g 122, g 123, g 124, g 125, g 126, g 127, g 128, g 129, g 130, g 131, g 132, g 133, g 134, g 135, g 136, g 137, g 138, g 139, g 140, g 141, g 142, g 143, g 144, g 145, g 146, g 147, g 148, g 149, g 150, g 151, g 152, g 153, g 154, g 155, g 156, g 157, g 158, g 159, g 160, g 161, g 162, g 163, g 164, g 165, g 166, g 167, g 168, g 169, g 170, g 171, g 172, g 173, g 174, g 175, g 176, g 177, g 178, g 179, g 180, g 181, g 182, g 183, g 184, g 185, g 186, g 187, g 188, g 189, g 190, g 191, g 192, g 193, g 194, g 195, g 196, g 197, g 198, g 199, g 200, g 201, g 202, g 203, g 204, g 205, g 206, g 207, g 208, g 209, g 210, g 211, g 212, g 213, g 214, g 215, g 216, g 217, g 218, g 219, g 220, g 221, g 222, g 223, g 224, g 225, g 226, g 227, g 228, g 229, g 230, g 231, g 232, g 233, g 234, g 235, g 236, g 237, g 238, g 239, g 240, g 241, g 242, g 243, g 244, g 245, g 246, g 247, g 248, g 249, g 250, g 251, g 252, g 253, g 254, g 255, g 256, g 257, g 258, g 259, g 260, g 261, g 262, g 263, g 264, g 265, g 266, g 267, g 268, g 269, g 270, g 271, g 272, g 273, g 274, g 275, g 276, g 277, g 278, g 279, g 280, g 281, g 282, g 283, g 284, g 285, g 286, g 287, g 288, g 289, g 290, g 291, g 292, g 293, g 294, g 295, g 296, g 297, g 298, g 299, g 300, g 301, g 302, g 303, g 304, g 305, g 306, g 307, g 308, g 309, g 310, g 311, g 312, g 313, g 314, g 315, g 316, g 317, g 318, g 319, g 320, g 321, g 322, g 323, g 324, g 325, g 326, g 327, g 328, g 329, g 330, g 331, g 332, g 333, g 334, g 335, g 336, g 337, g 338, g 339, g 340, g 341, g 342, g 343, g 344, g 345, g 346, g 347, g 348, g 349, g 350, g 351, g 352, g 353, g 354, g 355, g 356, g 357, g 358, g 359, g 360, g 361, g 362, g 363, g 364, g 365, g 366, g 367, g 368, g 369, g 370, g 371, g 372, g 373, g 374, g 375, g 376, g 377, g 378, g 379, g 380, g 381, g 382, g 383, g 384, g 385, g 386, g 387, g 388, g 389, g 390, g 391, g 392, g 393, g 394, g 395, g 396, g 397, g 398, g 399, g 400, g 401, g 402, g 403, g 404, g 405, g 406, g 407, g 408, g 409, g 410, g 411, g 412, g 413, g 414, g 415, g 416, g 417, g 418, g 419, g 420, g 421, g 422, g 423, g 424, g 425, g 426, g 427, g 428, g 429, g 430, g 431, g 432, g 433, g 434, g 435, g 436, g 437, g 438, g 439, g 440, g 441, g 442, g 443, g 444, g 445, g 446, g 447, g 448, g 449, g 450, g 451, g 452, g 453, g 454, g 455, g 456, g 457, g 458, g 459, g 460, g 461, g 462, g 463], []⟩ (w.drewN dr) := by
  conv => arg 2; whnf
  have hs := h.env.small
  have hnb : decide ((n : Int) < 3) = true := by simp; omega
  have Hc := Lib.hid hc
  clear hc
  have Hgo : Hid (prefFrom s i (fu - 1) true true (n + 1) = prefOf s i) := by
    show _ = _
    rw [← hr]
    obtain ⟨k, rfl⟩ : ∃ k, fu = k + 1 := ⟨fu - 1, by omega⟩
    exact (prefFrom_bytes hlt (by have := Hc.out; omega)).symm
  clear hr
  go_wp2_with fail
  refine (h.peekOk dr n _ rfl (by omega)).mono ?_
  rintro e w' ⟨rfl, n1, rfl⟩
  rw [decide_eq_true hlt]
  go_wp2_with fail
  refine (h.peekIs n1 n _ 66 rfl (by omega)).mono ?_
  rintro e w' ⟨rfl, n2, rfl⟩
  rw [decide_eq_true (show (i + n < s.size ∧ bt s (i + n) = 66) from by have := Hc.out; omega)]
  go_wp2_with fail
  refine ⟨⟨rfl, rfl, rfl, rfl, n + 1, fu - 1, true, true, rfl, rfl, rfl, by omega, Hgo.out, _, rfl⟩, ?_⟩
  show 3 - ((n : Int) + 1).toNat < _
  omega
set_option maxHeartbeats 8000000 in
set_option maxRecDepth 1000000 in
theorem pre_ft_98 (g : Nat → Value) (s : ByteArray) (b f i B n fu dr : Nat) (x : LxS) (w : World) (Q0 : Exit → Act → World → Prop) (h : THead s b f i B x w) (hf3 : n + fu = 3) (hr : prefFrom s i fu true false n = prefOf s i) (hlt : i + n < s.size) (hn : n < 3) (hc : bt s (i + n) = 98) :
    Code.wp Tryz.prog tLoopP (Exit.then (fun a' w' => PInv s b i w a' w' ∧ 3 - (intOf (sl a' 9)).toNat < 3 - n) Q0) ⟨#[.pointer (some ⟨b, 0, none⟩), .bool false, g 2, g 3, g 4, g 5, g 6, .bool false, .bool true, .int .i64 (n : Int), g 10, g 11, g 12, g 13, g 14, g 15, g 16, g 17, g 18, g 19, g 20, g 21, g 22, g 23, g 24, g 25, g 26, g 27, g 28, g 29, g 30, g 31, g 32, g 33, g 34, g 35, g 36, g 37, g 38, g 39, g 40, g 41, g 42, g 43, g 44, g 45, g 46, g 47, g 48, g 49, g 50, g 51, g 52, g 53, g 54, g 55, g 56, g 57, g 58, g 59, g 60, g 61, g 62, g 63, g 64, g 65, g 66, g 67, g 68, g 69, g 70, g 71, g 72, g 73, g 74, g 75, g 76, g 77, g 78, g 79, g 80, g 81, g 82, g 83, g 84, g 85, g 86, g 87, g 88, g 89, g 90, g 91, g 92, g 93, g 94, g 95, g 96, g 97, g 98, g 99, g 100, g 101, g 102, g 103, g 104, g 105, g 106, g 107, g 108, g 109, g 110, g 111, g 112, g 113, g 114, g 115, g 116, g 117, g 118, g 119, g 120, g 121, g 122, g 123, g 124, g 125, g 126, g 127, g 128, g 129, g 130, g 131, g 132, g 133, g 134, g 135, g 136, g 137, g 138, g 139, g 140, g 141, g 142, g 143, g 144, g 145, g 146, g 147, g 148, g 149, g 150, g 151, g 152, g 153, g 154, g 155, g 156, g 157, g 158, g 159, g 160, g 161, g 162, g 163, g 164, g 165, g 166, g 167, g 168, g 169, g 170, g 171, g 172, g 173, g 174, g 175, g 176, g 177, g 178, g 179, g 180, g 181, g 182, g 183, g 184, g 185, g 186, g 187, g 188, g 189, g 190, g 191, g 192, g 193, g 194, g 195, g 196, g 197, g 198, g 199, g 200, g 201, g 202, g 203, g 204, g 205, g 206, g 207, g 208, g 209, g 210, g 211, g 212, g 213, g 214, g 215, g 216, g 217, g 218, g 219, g 220, g 221, g 222, g 223, g 224, g 225, g 226, g 227, g 228, g 229, g 230, g 231, g 232, g 233, g 234, g 235, g 236, g 237, g 238, g 239, g 240, g 241, g 242, g 243, g 244, g 245, g 246, g 247, g 248, g 249, g 250, g 251, g 252, g 253, g 254, g 255, g 256, g 257, g 258, g 259, g 260, g 261, g 262, g 263, g 264, g 265, g 266, g 267, g 268, g 269, g 270, g 271, g 272, g 273, g 274, g 275, g 276, g 277, g 278, g 279, g 280, g 281, g 282, g 283, g 284, g 285, g 286, g 287, g 288, g 289, g 290, g 291, g 292, g 293, g 294, g 295, g 296, g 297, g 298, g 299, g 300, g 301, g 302, g 303, g 304, g 305, g 306, g 307, g 308, g 309, g 310, g 311, g 312, g 313, g 314, g 315, g 316, g 317, g 318, g 319, g 320, g 321, g 322, g 323, g 324, g 325, g 326, g 327, g 328, g 329, g 330, g 331, g 332, g 333, g 334, g 335, g 336, g 337, g 338, g 339, g 340, g 341, g 342, g 343, g 344, g 345, g 346, g 347, g 348, g 349, g 350, g 351, g 352, g 353, g 354, g 355, g 356, g 357, g 358, g 359, g 360, g 361, g 362, g 363, g 364, g 365, g 366, g 367, g 368, g 369, g 370, g 371, g 372, g 373, g 374, g 375, g 376, g 377, g 378, g 379, g 380, g 381, g 382, g 383, g 384, g 385, g 386, g 387, g 388, g 389, g 390, g 391, g 392, g 393, g 394, g 395, g 396, g 397, g 398, g 399, g 400, g 401, g 402, g 403, g 404, g 405, g 406, g 407, g 408, g 409, g 410, g 411, g 412, g 413, g 414, g 415, g 416, g 417, g 418, g 419, g 420, g 421, g 422, g 423, g 424, g 425, g 426, g 427, g 428, g 429, g 430, g 431, g 432, g 433, g 434, g 435, g 436, g 437, g 438, g 439, g 440, g 441, g 442, g 443, g 444, g 445, g 446, g 447, g 448, g 449, g 450, g 451, g 452, g 453, g 454, g 455, g 456, g 457, g 458, g 459, g 460, g 461, g 462, g 463], []⟩ (w.drewN dr) := by
  conv => arg 2; whnf
  have hs := h.env.small
  have hnb : decide ((n : Int) < 3) = true := by simp; omega
  have Hc := Lib.hid hc
  clear hc
  have Hgo : Hid (prefFrom s i (fu - 1) true true (n + 1) = prefOf s i) := by
    show _ = _
    rw [← hr]
    obtain ⟨k, rfl⟩ : ∃ k, fu = k + 1 := ⟨fu - 1, by omega⟩
    exact (prefFrom_bytes hlt (by have := Hc.out; omega)).symm
  clear hr
  go_wp2_with fail
  refine (h.peekOk dr n _ rfl (by omega)).mono ?_
  rintro e w' ⟨rfl, n1, rfl⟩
  rw [decide_eq_true hlt]
  go_wp2_with fail
  refine (h.peekIs n1 n _ 66 rfl (by omega)).mono ?_
  rintro e w' ⟨rfl, n2, rfl⟩
  rw [decide_eq_false (show ¬ (i + n < s.size ∧ bt s (i + n) = 66) from by have := Hc.out; omega)]
  go_wp2_with fail
  refine (h.peekIs n2 n _ 98 rfl (by omega)).mono ?_
  rintro e w' ⟨rfl, n3, rfl⟩
  rw [decide_eq_true (show (i + n < s.size ∧ bt s (i + n) = 98) from by have := Hc.out; omega)]
  go_wp2_with fail
  refine ⟨⟨rfl, rfl, rfl, rfl, n + 1, fu - 1, true, true, rfl, rfl, rfl, by omega, Hgo.out, _, rfl⟩, ?_⟩
  show 3 - ((n : Int) + 1).toNat < _
  omega
set_option maxHeartbeats 8000000 in
set_option maxRecDepth 1000000 in
theorem pre_ft_34 (g : Nat → Value) (s : ByteArray) (b f i B n fu dr : Nat) (x : LxS) (w : World) (Q0 : Exit → Act → World → Prop) (h : THead s b f i B x w) (hf3 : n + fu = 3) (hr : prefFrom s i fu true false n = prefOf s i) (hlt : i + n < s.size) (hn : n < 3) (hc : bt s (i + n) = 34) (after : Bool) (hret : ∀ p, prefOf s i = some p → ∀ a' w', a'.defers = [] → Step b f x B (tokStep x after (quotTok s (i + p.1) p.2.1 p.2.2)) w (.returned (.tuple #[])) w' → Q0 .ret a' w')
    (hpan : ∀ p, prefOf s i = some p → ∀ a' w' ch, a'.defers = [] → Step b f x B (tokStep x after (quotTok s (i + p.1) p.2.1 p.2.2)) w (.panicked ch) w' → Q0 (.panic ch) a' w') :
    Code.wp Tryz.prog tLoopP (Exit.then (fun a' w' => PInv s b i w a' w' ∧ 3 - (intOf (sl a' 9)).toNat < 3 - n) Q0) ⟨#[.pointer (some ⟨b, 0, none⟩), .bool false, g 2, g 3, g 4, g 5, g 6, .bool false, .bool true, .int .i64 (n : Int), g 10, g 11, g 12, g 13, g 14, g 15, g 16, g 17, g 18, g 19, g 20, g 21, g 22, g 23, g 24, g 25, g 26, g 27, g 28, g 29, g 30, g 31, g 32, g 33, g 34, g 35, g 36, g 37, g 38, g 39, g 40, g 41, g 42, g 43, g 44, g 45, g 46, g 47, g 48, g 49, g 50, g 51, g 52, g 53, g 54, g 55, g 56, g 57, g 58, g 59, g 60, g 61, g 62, g 63, g 64, g 65, g 66, g 67, g 68, g 69, g 70, g 71, g 72, g 73, g 74, g 75, g 76, g 77, g 78, g 79, g 80, g 81, g 82, g 83, g 84, g 85, g 86, g 87, g 88, g 89, g 90, g 91, g 92, g 93, g 94, g 95, g 96, g 97, g 98, g 99, g 100, g 101, g 102, g 103, g 104, g 105, g 106, g 107, g 108, g 109, g 110, g 111, g 112, g 113, g 114, g 115, g 116, g 117, g 118, g 119, g 120, g 121, g 122, g 123, g 124, g 125, g 126, g 127, g 128, g 129, g 130, g 131, g 132, g 133, g 134, g 135, g 136, g 137, g 138, g 139, g 140, g 141, g 142, g 143, g 144, g 145, g 146, g 147, g 148, g 149, g 150, g 151, g 152, g 153, g 154, g 155, g 156, g 157, g 158, g 159, g 160, g 161, g 162, g 163, g 164, g 165, g 166, g 167, g 168, g 169, g 170, g 171, g 172, g 173, g 174, g 175, g 176, g 177, g 178, g 179, g 180, g 181, g 182, g 183, g 184, g 185, g 186, g 187, g 188, g 189, g 190, g 191, g 192, g 193, g 194, g 195, g 196, g 197, g 198, g 199, g 200, g 201, g 202, g 203, g 204, g 205, g 206, g 207, g 208, g 209, g 210, g 211, g 212, g 213, g 214, g 215, g 216, g 217, g 218, g 219, g 220, g 221, g 222, g 223, g 224, g 225, g 226, g 227, g 228, g 229, g 230, g 231, g 232, g 233, g 234, g 235, g 236, g 237, g 238, g 239, g 240, g 241, g 242, g 243, g 244, g 245, g 246, g 247, g 248, g 249, g 250, g 251, g 252, g 253, g 254, g 255, g 256, g 257, g 258, g 259, g 260, g 261, g 262, g 263, g 264, g 265, g 266, g 267, g 268, g 269, g 270, g 271, g 272, g 273, g 274, g 275, g 276, g 277, g 278, g 279, g 280, g 281, g 282, g 283, g 284, g 285, g 286, g 287, g 288, g 289, g 290, g 291, g 292, g 293, g 294, g 295, g 296, g 297, g 298, g 299, g 300, g 301, g 302, g 303, g 304, g 305, g 306, g 307, g 308, g 309, g 310, g 311, g 312, g 313, g 314, g 315, g 316, g 317, g 318, g 319, g 320, g 321, g 322, g 323, g 324, g 325, g 326, g 327, g 328, g 329, g 330, g 331, g 332, g 333, g 334, g 335, g 336, g 337, g 338, g 339, g 340, g 341, g 342, g 343, g 344, g 345, g 346, g 347, g 348, g 349, g 350, g 351, g 352, g 353, g 354, g 355, g 356, g 357, g 358, g 359, g 360, g 361, g 362, g 363, g 364, g 365, g 366, g 367, g 368, g 369, g 370, g 371, g 372, g 373, g 374, g 375, g 376, g 377, g 378, g 379, g 380, g 381, g 382, g 383, g 384, g 385, g 386, g 387, g 388, g 389, g 390, g 391, g 392, g 393, g 394, g 395, g 396, g 397, g 398, g 399, g 400, g 401, g 402, g 403, g 404, g 405, g 406, g 407, g 408, g 409, g 410, g 411, g 412, g 413, g 414, g 415, g 416, g 417, g 418, g 419, g 420, g 421, g 422, g 423, g 424, g 425, g 426, g 427, g 428, g 429, g 430, g 431, g 432, g 433, g 434, g 435, g 436, g 437, g 438, g 439, g 440, g 441, g 442, g 443, g 444, g 445, g 446, g 447, g 448, g 449, g 450, g 451, g 452, g 453, g 454, g 455, g 456, g 457, g 458, g 459, g 460, g 461, g 462, g 463], []⟩ (w.drewN dr) := by
  conv => arg 2; whnf
  have hs := h.env.small
  have hnb : decide ((n : Int) < 3) = true := by simp; omega
  have Hc := Lib.hid hc
  clear hc
  have Hpr : Hid (prefOf s i = some (n, true, false)) := by
    show _ = _
    rw [← hr]
    obtain ⟨k, rfl⟩ : ∃ k, fu = k + 1 := ⟨fu - 1, by omega⟩
    exact prefFrom_quote hlt (by have := Hc.out; omega)
  have Hret := Lib.hid (hret _ Hpr.out)
  have Hpan := Lib.hid (hpan _ Hpr.out)
  clear hret hpan
  clear hr
  go_wp2_with fail
  refine (h.peekOk dr n _ rfl (by omega)).mono ?_
  rintro e w' ⟨rfl, n1, rfl⟩
  rw [decide_eq_true hlt]
  go_wp2_with fail
  refine (h.peekIs n1 n _ 66 rfl (by omega)).mono ?_
  rintro e w' ⟨rfl, n2, rfl⟩
  rw [decide_eq_false (show ¬ (i + n < s.size ∧ bt s (i + n) = 66) from by have := Hc.out; omega)]
  go_wp2_with fail
  refine (h.peekIs n2 n _ 98 rfl (by omega)).mono ?_
  rintro e w' ⟨rfl, n3, rfl⟩
  rw [decide_eq_false (show ¬ (i + n < s.size ∧ bt s (i + n) = 98) from by have := Hc.out; omega)]
  go_wp2_with fail
  refine (h.peekIs n3 n _ 34 rfl (by omega)).mono ?_
  rintro e w' ⟨rfl, n4, rfl⟩
  rw [decide_eq_true (show (i + n < s.size ∧ bt s (i + n) = 34) from by have := Hc.out; omega)]
  go_wp2_with fail
  refine (h.skipN n4 n _ rfl (by omega)).mono ?_
  rintro e w' ⟨rfl, hw⟩
  have hx2 := ((h.dn n4).lx).setPos ((i + n : Nat) : Int)
  have hO2 := ((Only.refl b w).dn n4).setCell 9 (.int .i64 ((i + n : Nat) : Int))
  obtain ⟨W, hW⟩ : ∃ W, (w.drewN n4).setCell ⟨b, 9, none⟩ (.int .i64 ((i + n : Nat) : Int)) = W := ⟨_, rfl⟩
  rw [hW] at hx2 hO2 hw
  replace hw := hw.symm
  subst hw
  clear hW
  have h3 : THead s b f (i + n) B { x with pos := ((i + n : Nat) : Int) } W := ⟨h.env.only hO2, hx2, rfl, by omega, h.ok, h.esc⟩
  have H3 := Lib.hid h3
  have HO2 := Lib.hid hO2
  clear hx2 hO2 h3
  go_wp2_with fail
  refine (consumeRawString_c s b f (i + n) B { x with pos := ((i + n : Nat) : Int) } after W H3.out hlt (by have := Hc.out; omega)).mono ?_
  rintro e w' k
  rw [tokStep_pos] at k
  have k2 := k.low (y := x) HO2.out h.lx h.env.bb h.env.bw
  clear k
  rcases k2.shape with rfl | ⟨v, rfl⟩
  · have K2 := Lib.hid k2
    clear k2
    go_wp2_with fail
    exact Hret.out _ _ rfl K2.out
  · exact Hpan.out _ _ _ rfl k2
end Go.Proofs.YtmkkeacbabmaeaaGreatDoor
