/- The loop over the letters ahead of a quotation mark, more rounds. No condition. · The loop over the letters ahead of a quotation mark. No condition. · A text cut at its blanks. No condition. · The parser's keywords are the plain list. No condition. · The reference's keywords are the parser's. No condition. · A row of bytes that a call owns and whose mark, if any, lies at or behind its capacity ('[]byte(s)'): a byte is appended to it. No condition. · Capitals as package char writes them: the plain ones. Condition: the text is at most 2^38 bytes long. · One token: words. No condition but the ones it names. · One token: words and literals that begin alike. No condition but the ones it names. · One token: signs of one byte. No condition but the ones it names. -/
import Derived.Test.YtmkkeacbabmaeaaGreatDoorM09
import Derived.Test.YtmkkeacbabmaeaaGreatDoorM02
import Derived.Test.YtmkkeacbabmaeaaGreatDoorM03
import Derived.Test.YtmkkeacbabmaeaaGreatDoorM01
import Derived.Laws.Append
import Derived.Laws.AppendOwn
import Derived.Lib.AppendZeros
import Derived.Lib.LazyBuf
import Derived.WalkMore
import Derived.Test.YtmkkeacbabmaeaaGreatDoorM05
namespace Go.Proofs.YtmkkeacbabmaeaaGreatDoor
open Go.RowKit Go.PlainAid

set_option maxHeartbeats 8000000 in
set_option maxRecDepth 1000000 in
theorem pre_ft_39 (g : Nat → Value) (s : ByteArray) (b f i B n fu dr : Nat) (x : LxS) (w : World) (Q0 : Exit → Act → World → Prop) (h : THead s b f i B x w) (hf3 : n + fu = 3) (hr : prefFrom s i fu true false n = prefOf s i) (hlt : i + n < s.size) (hn : n < 3) (hc : bt s (i + n) = 39) (after : Bool) (hret : ∀ p, prefOf s i = some p → ∀ a' w', a'.defers = [] → Step b f x B (tokStep x after (quotTok s (i + p.1) p.2.1 p.2.2)) w (.returned (.tuple #[])) w' → Q0 .ret a' w')
    (hpan : ∀ p, prefOf s i = some p → ∀ a' w' ch, a'.defers = [] → Step b f x B (tokStep x after (quotTok s (i + p.1) p.2.1 p.2.2)) w (.panicked ch) w' → Q0 (.panic ch) a' w') :
    Code.wp Tryz.prog tLoopP (Exit.then (fun a' w' => PInv s b i w a' w' ∧ 3 - (intOf (sl a' 9)).toNat < 3 - n) Q0) ⟨#[.pointer (some ⟨b, 0, none⟩), .bool false, g 2, g 3, g 4, g 5, g 6, .bool false, .bool true, .int .i64 (n : Int), g 10, g 11, g 12, g 13, g 14, g 15, g 16, g 17, g 18, g 19, g 20, g 21, g 22, g 23, g 24, g 25, g 26, g 27, g 28, g 29, g 30, g 31, g 32, g 33, g 34, g 35, g 36, g 37, g 38, g 39, g 40, g 41, g 42, g 43, g 44, g 45, g 46, g 47, g 48, g 49, g 50, g 51, g 52, g 53, g 54, g 55, g 56, g 57, g 58, g 59, g 60, g 61, g 62, g 63, g 64, g 65, g 66, g 67, g 68, g 69, g 70, g 71, g 72, g 73, g 74, g 75, g 76, g 77, g 78, g 79, g 80, g 81, g 82, g 83, g 84, g 85, g 86, g 87, g 88, g 89, g 90, g 91, g 92, g 93, g 94, g 95, g 96, g 97, g 98, g 99, g 100, g 101, g 102, g 103, g 104, g 105, g 106, g 107, g 108, g 109, g 110, g 111, g 112, g 113, g 114, g 115, g 116, g 117, g 118, g 119, g 120, g 121, g 122, g 123, g 124, g 125, g 126, g 127, g 128, g 129, g 130, g 131, g 132, g 133, g 134, g 135, g 136, g 137, g 138, g 139, g 140, g 141, g 142, g 143, g 144, g 145, g 146, g 147, g 148, g 149, g 150, g 151, g 152, g 153, g 154, g 155, g 156, g 157, g 158, g 159, g 160, g 161, g 162, g 163, g 164, g 165, g 166, g 167, g 168, g 169, g 170, g 171, g 172, g 173, g 174, g 175, g 176, g 177, g 178, g 179, g 180, g 181, g 182, g 183, g 184, g 185, g 186, g 187, g 188, g 189, g 190, g 191, g 192, g 193, g 194, g 195, g 196, g 197, g 198, g 199, g 200, g 201, g 202, g 203, g 204, g 205, g 206, g 207, g 208, g 209, g 210, g 211, g 212, g 213, g 214, g 215, g 216, g 217, g 218, g 219, g 220, g 221, g 222, g 223, g 224, g 225, g 226, g 227, g 228, g 229, g 230, g 231, g 232, g 233, g 234, g 235, g 236, g 237, g 238, g 239, g 240, g 241, g 242, g 243, g 244, g 245, g 246, g 247, g 248, g 249, g 250, g 251, g 252, g 253, g 254, g 255, g 256, g 257, g 258, g 259, g 260, g 261, g 262, g 263, g 264, g 265, g 266, g 267, g 268, g 269, g 270, g 271, g 272, g 273, g 274, g 275, g 276, g 277, g 278, g 279, g 280, g 281, g 282, g 283, g 284, g 285, g 286, g 287, g 288, g 289, g 290, g 291, g 292, g 293, g 294, g 295, g 296, g 297, g 298, g 299, g 300, g 301, g 302, g 303, g 304, g 305, g 306, g 307, g 308, g 309, g 310, g 311, g 312, g 313, g 314, g 315, g 316, g 317, g 318, g 319, g 320, g 321, g 322, g 323, g 324, g 325, g 326, g 327, g 328, g 329, g 330, g 331, g 332, g 333, g 334, g 335, g 336, g 337, g 338, g 339, g 340, g 341, g 342, g 343, g 344, g 345, g 346, g 347, g 348, g 349, g 350, g 351, g 352, g 353, g 354, g 355, g 356, g 357, g 358, g 359, g 360, g 361, g 362, g 363, g 364, g 365, g 366, g 367, g 368, g 369, g 370, g 371, g 372, g 373, g 374, g 375, g 376, g 377, g 378, g 379, g 380, g 381, g 382, g 383, g 384, g 385, g 386, g 387, g 388, g 389, g 390, g 391, g 392, g 393, g 394, g 395, g 396, g 397, g 398, g 399, g 400, g 401, g 402, g 403, g 404, g 405, g 406, g 407, g 408, g 409, g 410, g 411, g 412, g 413, g 414, g 415, g 416, g 417, g 418, g 419, g 420, g 421, g 422, g 423, g 424, g 425, g 426, g 427, g 428, g 429, g 430, g 431, g 432, g 433, g 434, g 435, g 436, g 437, g 438, g 439, g 440, g 441, g 442, g 443, g 444, g 445, g 446, g 447, g 448, g 449, g 450, g 451, g 452, g 453, g 454, g 455, g 456, g 457, g 458, g 459, g 460, g 461, g 462, g 463], []⟩ (w.drewN dr) := by
  conv => arg 2; whnf
  have hs := h.env.small
  have hnb : decide ((n : Int) < 3) = true := by simp; omega
  have Hc := Lib.hid hc
  clear hc
  have Hpr : Hid (prefOf s i = some (n, true, false)) := by
    show _ = _
    rw [← hr]
    obtain ⟨k, rfl⟩ : ∃ k, fu = k + 1 := ⟨fu - 1, by omega⟩
    exact prefFrom_quote hlt (by have := Hc.out; omega)
  have Hret := Lib.hid (hret _ Hpr.out)
  have Hpan := Lib.hid (hpan _ Hpr.out)
  clear hret hpan
  clear hr
  go_wp2_with fail
  refine (h.peekOk dr n _ rfl (by omega)).mono ?_
  rintro e w' ⟨rfl, n1, rfl⟩
  rw [decide_eq_true hlt]
  go_wp2_with fail
  refine (h.peekIs n1 n _ 66 rfl (by omega)).mono ?_
  rintro e w' ⟨rfl, n2, rfl⟩
  rw [decide_eq_false (show ¬ (i + n < s.size ∧ bt s (i + n) = 66) from by have := Hc.out; omega)]
  go_wp2_with fail
  refine (h.peekIs n2 n _ 98 rfl (by omega)).mono ?_
  rintro e w' ⟨rfl, n3, rfl⟩
  rw [decide_eq_false (show ¬ (i + n < s.size ∧ bt s (i + n) = 98) from by have := Hc.out; omega)]
  go_wp2_with fail
  refine (h.peekIs n3 n _ 34 rfl (by omega)).mono ?_
  rintro e w' ⟨rfl, n4, rfl⟩
  rw [decide_eq_false (show ¬ (i + n < s.size ∧ bt s (i + n) = 34) from by have := Hc.out; omega)]
  go_wp2_with fail
  refine (h.peekIs n4 n _ 39 rfl (by omega)).mono ?_
  rintro e w' ⟨rfl, n5, rfl⟩
  rw [decide_eq_true (show (i + n < s.size ∧ bt s (i + n) = 39) from by have := Hc.out; omega)]
  go_wp2_with fail
  refine (h.skipN n5 n _ rfl (by omega)).mono ?_
  rintro e w' ⟨rfl, hw⟩
  have hx2 := ((h.dn n5).lx).setPos ((i + n : Nat) : Int)
  have hO2 := ((Only.refl b w).dn n5).setCell 9 (.int .i64 ((i + n : Nat) : Int))
  obtain ⟨W, hW⟩ : ∃ W, (w.drewN n5).setCell ⟨b, 9, none⟩ (.int .i64 ((i + n : Nat) : Int)) = W := ⟨_, rfl⟩
  rw [hW] at hx2 hO2 hw
  replace hw := hw.symm
  subst hw
  clear hW
  have h3 : THead s b f (i + n) B { x with pos := ((i + n : Nat) : Int) } W := ⟨h.env.only hO2, hx2, rfl, by omega, h.ok, h.esc⟩
  have H3 := Lib.hid h3
  have HO2 := Lib.hid hO2
  clear hx2 hO2 h3
  go_wp2_with fail
  refine (consumeRawString_c s b f (i + n) B { x with pos := ((i + n : Nat) : Int) } after W H3.out hlt (by have := Hc.out; omega)).mono ?_
  rintro e w' k
  rw [tokStep_pos] at k
  have k2 := k.low (y := x) HO2.out h.lx h.env.bb h.env.bw
  clear k
  rcases k2.shape with rfl | ⟨v, rfl⟩
  · have K2 := Lib.hid k2
    clear k2
    go_wp2_with fail
    exact Hret.out _ _ rfl K2.out
  · exact Hpan.out _ _ _ rfl k2
set_option maxHeartbeats 8000000 in
set_option maxRecDepth 1000000 in
theorem pre_ft_no (g : Nat → Value) (s : ByteArray) (b f i B n fu dr : Nat) (x : LxS) (w : World) (Q0 : Exit → Act → World → Prop) (h : THead s b f i B x w) (hf3 : n + fu = 3) (hr : prefFrom s i fu true false n = prefOf s i) (hlt : i + n < s.size) (hn : n < 3) (hb : bt s (i + n) ≠ 66 ∧ bt s (i + n) ≠ 98) (hq : bt s (i + n) ≠ 34 ∧ bt s (i + n) ≠ 39) (hexit : prefOf s i = none → ∀ a' w', a'.tmps.toList.length = 464 → a'.defers = [] → sl a' 0 = .pointer (some ⟨b, 0, none⟩) → sl a' 1 = .bool false → (∃ dr, w' = w.drewN dr) → Q0 (.exit 9) a' w') :
    Code.wp Tryz.prog tLoopP (Exit.then (fun a' w' => PInv s b i w a' w' ∧ 3 - (intOf (sl a' 9)).toNat < 3 - n) Q0) ⟨#[.pointer (some ⟨b, 0, none⟩), .bool false, g 2, g 3, g 4, g 5, g 6, .bool false, .bool true, .int .i64 (n : Int), g 10, g 11, g 12, g 13, g 14, g 15, g 16, g 17, g 18, g 19, g 20, g 21, g 22, g 23, g 24, g 25, g 26, g 27, g 28, g 29, g 30, g 31, g 32, g 33, g 34, g 35, g 36, g 37, g 38, g 39, g 40, g 41, g 42, g 43, g 44, g 45, g 46, g 47, g 48, g 49, g 50, g 51, g 52, g 53, g 54, g 55, g 56, g 57, g 58, g 59, g 60, g 61, g 62, g 63, g 64, g 65, g 66, g 67, g 68, g 69, g 70, g 71, g 72, g 73, g 74, g 75, g 76, g 77, g 78, g 79, g 80, g 81, g 82, g 83, g 84, g 85, g 86, g 87, g 88, g 89, g 90, g 91, g 92, g 93, g 94, g 95, g 96, g 97, g 98, g 99, g 100, g 101, g 102, g 103, g 104, g 105, g 106, g 107, g 108, g 109, g 110, g 111, g 112, g 113, g 114, g 115, g 116, g 117, g 118, g 119, g 120, g 121, g 122, g 123, g 124, g 125, g 126, g 127, g 128, g 129, g 130, g 131, g 132, g 133, g 134, g 135, g 136, g 137, g 138, g 139, g 140, g 141, g 142, g 143, g 144, g 145, g 146, g 147, g 148, g 149, g 150, g 151, g 152, g 153, g 154, g 155, g 156, g 157, g 158, g 159, g 160, g 161, g 162, g 163, g 164, g 165, g 166, g 167, g 168, g 169, g 170, g 171, g 172, g 173, g 174, g 175, g 176, g 177, g 178, g 179, g 180, g 181, g 182, g 183, g 184, g 185, g 186, g 187, g 188, g 189, g 190, g 191, g 192, g 193, g 194, g 195, g 196, g 197, g 198, g 199, g 200, g 201, g 202, g 203, g 204, g 205, g 206, g 207, g 208, g 209, g 210, g 211, g 212, g 213, g 214, g 215, g 216, g 217, g 218, g 219, g 220, g 221, g 222, g 223, g 224, g 225, g 226, g 227, g 228, g 229, g 230, g 231, g 232, g 233, g 234, g 235, g 236, g 237, g 238, g 239, g 240, g 241, g 242, g 243, g 244, g 245, g 246, g 247, g 248, g 249, g 250, g 251, g 252, g 253, g 254, g 255, g 256, g 257, g 258, g 259, g 260, g 261, g 262, g 263, g 264, g 265, g 266, g 267, g 268, g 269, g 270, g 271, g 272, g 273, g 274, g 275, g 276, g 277, g 278, g 279, g 280, g 281, g 282, g 283, g 284, g 285, g 286, g 287, g 288, g 289, g 290, g 291, g 292, g 293, g 294, g 295, g 296, g 297, g 298, g 299, g 300, g 301, g 302, g 303, g 304, g 305, g 306, g 307, g 308, g 309, g 310, g 311, g 312, g 313, g 314, g 315, g 316, g 317, g 318, g 319, g 320, g 321, g 322, g 323, g 324, g 325, g 326, g 327, g 328, g 329, g 330, g 331, g 332, g 333, g 334, g 335, g 336, g 337, g 338, g 339, g 340, g 341, g 342, g 343, g 344, g 345, g 346, g 347, g 348, g 349, g 350, g 351, g 352, g 353, g 354, g 355, g 356, g 357, g 358, g 359, g 360, g 361, g 362, g 363, g 364, g 365, g 366, g 367, g 368, g 369, g 370, g 371, g 372, g 373, g 374, g 375, g 376, g 377, g 378, g 379, g 380, g 381, g 382, g 383, g 384, g 385, g 386, g 387, g 388, g 389, g 390, g 391, g 392, g 393, g 394, g 395, g 396, g 397, g 398, g 399, g 400, g 401, g 402, g 403, g 404, g 405, g 406, g 407, g 408, g 409, g 410, g 411, g 412, g 413, g 414, g 415, g 416, g 417, g 418, g 419, g 420, g 421, g 422, g 423, g 424, g 425, g 426, g 427, g 428, g 429, g 430, g 431, g 432, g 433, g 434, g 435, g 436, g 437, g 438, g 439, g 440, g 441, g 442, g 443, g 444, g 445, g 446, g 447, g 448, g 449, g 450, g 451, g 452, g 453, g 454, g 455, g 456, g 457, g 458, g 459, g 460, g 461, g 462, g 463], []⟩ (w.drewN dr) := by
  conv => arg 2; whnf
  have hs := h.env.small
  have hnb : decide ((n : Int) < 3) = true := by simp; omega
  have Hno : Hid (prefOf s i = none) := by
    show _ = _
    rw [← hr]
    obtain ⟨k, rfl⟩ : ∃ k, fu = k + 1 := ⟨fu - 1, by omega⟩
    exact prefFrom_none hlt (by omega) (by rintro ⟨_, k⟩; cases k) (by omega)
  have Hx := Lib.hid hexit
  clear hexit
  have Hhb := Lib.hid hb
  clear hb
  have Hhq := Lib.hid hq
  clear hq
  clear hr
  go_wp2_with fail
  refine (h.peekOk dr n _ rfl (by omega)).mono ?_
  rintro e w' ⟨rfl, n1, rfl⟩
  rw [decide_eq_true hlt]
  go_wp2_with fail
  refine (h.peekIs n1 n _ 66 rfl (by omega)).mono ?_
  rintro e w' ⟨rfl, n2, rfl⟩
  rw [decide_eq_false (show ¬ (i + n < s.size ∧ bt s (i + n) = 66) from fun k => by have := Hhb.out; omega)]
  go_wp2_with fail
  refine (h.peekIs n2 n _ 98 rfl (by omega)).mono ?_
  rintro e w' ⟨rfl, n3, rfl⟩
  rw [decide_eq_false (show ¬ (i + n < s.size ∧ bt s (i + n) = 98) from fun k => by have := Hhb.out; omega)]
  go_wp2_with fail
  refine (h.peekIs n3 n _ 34 rfl (by omega)).mono ?_
  rintro e w' ⟨rfl, n4, rfl⟩
  rw [decide_eq_false (show ¬ (i + n < s.size ∧ bt s (i + n) = 34) from fun k => by have := Hhq.out; omega)]
  go_wp2_with fail
  refine (h.peekIs n4 n _ 39 rfl (by omega)).mono ?_
  rintro e w' ⟨rfl, n5, rfl⟩
  rw [decide_eq_false (show ¬ (i + n < s.size ∧ bt s (i + n) = 39) from fun k => by have := Hhq.out; omega)]
  go_wp2_with fail
  exact Hx.out Hno.out _ _ rfl rfl rfl rfl ⟨_, rfl⟩
set_option maxHeartbeats 8000000 in
set_option maxRecDepth 1000000 in
theorem pre_tf_82 (g : Nat → Value) (s : ByteArray) (b f i B n fu dr : Nat) (x : LxS) (w : World) (Q0 : Exit → Act → World → Prop) (h : THead s b f i B x w) (hf3 : n + fu = 3) (hr : prefFrom s i fu false true n = prefOf s i) (hlt : i + n < s.size) (hn : n < 3) (hc : bt s (i + n) = 82) :
    Code.wp Tryz.prog tLoopP (Exit.then (fun a' w' => PInv s b i w a' w' ∧ 3 - (intOf (sl a' 9)).toNat < 3 - n) Q0) ⟨#[.pointer (some ⟨b, 0, none⟩), .bool false, g 2, g 3, g 4, g 5, g 6, .bool true, .bool false, .int .i64 (n : Int), g 10, g 11, g 12, g 13, g 14, g 15, g 16, g 17, g 18, g 19, g 20, g 21, g 22, g 23, g 24, g 25, g 26, g 27, g 28, g 29, g 30, g 31, g 32, g 33, g 34, g 35, g 36, g 37, g 38, g 39, g 40, g 41, g 42, g 43, g 44, g 45, g 46, g 47, g 48, g 49, g 50, g 51, g 52, g 53, g 54, g 55, g 56, g 57, g 58, g 59, g 60, g 61, g 62, g 63, g 64, g 65, g 66, g 67, g 68, g 69, g 70, g 71, g 72, g 73, g 74, g 75, g 76, g 77, g 78, g 79, g 80, g 81, g 82, g 83, g 84, g 85, g 86, g 87, g 88, g 89, g 90, g 91, g 92, g 93, g 94, g 95, g 96, g 97, g 98, g 99, g 100, g 101, g 102, g 103, g 104, g 105, g 106, g 107, g 108, g 109, g 110, g 111, g 112, g 113, g 114, g 115, g 116, g 117, g 118, g 119, g 120, g 121, g 122, g 123, g 124, g 125, g 126, g 127, g 128, g 129, g 130, g 131, g 132, g 133, g 134, g 135, g 136, g 137, g 138, g 139, g 140, g 141, g 142, g 143, g 144, g 145, g 146, g 147, g 148, g 149, g 150, g 151, g 152, g 153, g 154, g 155, g 156, g 157, g 158, g 159, g 160, g 161, g 162, g 163, g 164, g 165, g 166, g 167, g 168, g 169, g 170, g 171, g 172, g 173, g 174, g 175, g 176, g 177, g 178, g 179, g 180, g 181, g 182, g 183, g 184, g 185, g 186, g 187, g 188, g 189, g 190, g 191, g 192, g 193, g 194, g 195, g 196, g 197, g 198, g 199, g 200, g 201, g 202, g 203, g 204, g 205, g 206, g 207, g 208, g 209, g 210, g 211, g 212, g 213, g 214, g 215, g 216, g 217, g 218, g 219, g 220, g 221, g 222, g 223, g 224, g 225, g 226, g 227, g 228, g 229, g 230, g 231, g 232, g 233, g 234, g 235, g 236, g 237, g 238, g 239, g 240, g 241, g 242, g 243, g 244, g 245, g 246, g 247, g 248, g 249, g 250, g 251, g 252, g 253, g 254, g 255, g 256, g 257, g 258, g 259, g 260, g 261, g 262, g 263, g 264, g 265, g 266, g 267, g 268, g 269, g 270, g 271, g 272, g 273, g 274, g 275, g 276, g 277, g 278, g 279, g 280, g 281, g 282, g 283, g 284, g 285, g 286, g 287, g 288, g 289, g 290, g 291, g 292, g 293, g 294, g 295, g 296, g 297, g 298, g 299, g 300, g 301, g 302, g 303, g 304, g 305, g 306, g 307, g 308, g 309, g 310, g 311, g 312, g 313, g 314, g 315, g 316, g 317, g 318, g 319, g 320, g 321, g 322, g 323, g 324, g 325, g 326, g 327, g 328, g 329, g 330, g 331, g 332, g 333, g 334, g 335, g 336, g 337, g 338, g 339, g 340, g 341, g 342, g 343, g 344, g 345, g 346, g 347, g 348, g 349, g 350, g 351, g 352, g 353, g 354, g 355, g 356, g 357, g 358, g 359, g 360, g 361, g 362, g 363, g 364, g 365, g 366, g 367, g 368, g 369, g 370, g 371, g 372, g 373, g 374, g 375, g 376, g 377, g 378, g 379, g 380, g 381, g 382, g 383, g 384, g 385, g 386, g 387, g 388, g 389, g 390, g 391, g 392, g 393, g 394, g 395, g 396, g 397, g 398, g 399, g 400, g 401, g 402, g 403, g 404, g 405, g 406, g 407, g 408, g 409, g 410, g 411, g 412, g 413, g 414, g 415, g 416, g 417, g 418, g 419, g 420, g 421, g 422, g 423, g 424, g 425, g 426, g 427, g 428, g 429, g 430, g 431, g 432, g 433, g 434, g 435, g 436, g 437, g 438, g 439, g 440, g 441, g 442, g 443, g 444, g 445, g 446, g 447, g 448, g 449, g 450, g 451, g 452, g 453, g 454, g 455, g 456, g 457, g 458, g 459, g 460, g 461, g 462, g 463], []⟩ (w.drewN dr) := by
  conv => arg 2; whnf
  have hs := h.env.small
  have hnb : decide ((n : Int) < 3) = true := by simp; omega
  have Hc := Lib.hid hc
  clear hc
  have Hgo : Hid (prefFrom s i (fu - 1) true true (n + 1) = prefOf s i) := by
    show _ = _
    rw [← hr]
    obtain ⟨k, rfl⟩ : ∃ k, fu = k + 1 := ⟨fu - 1, by omega⟩
    exact (prefFrom_raw hlt (by have := Hc.out; omega)).symm
  clear hr
  go_wp2_with fail
  refine (h.peekOk dr n _ rfl (by omega)).mono ?_
  rintro e w' ⟨rfl, n1, rfl⟩
  rw [decide_eq_true hlt]
  go_wp2_with fail
  refine (h.peekIs n1 n _ 82 rfl (by omega)).mono ?_
  rintro e w' ⟨rfl, n2, rfl⟩
  rw [decide_eq_true (show (i + n < s.size ∧ bt s (i + n) = 82) from by have := Hc.out; omega)]
  go_wp2_with fail
  refine ⟨⟨rfl, rfl, rfl, rfl, n + 1, fu - 1, true, true, rfl, rfl, rfl, by omega, Hgo.out, _, rfl⟩, ?_⟩
  show 3 - ((n : Int) + 1).toNat < _
  omega
set_option maxHeartbeats 8000000 in
set_option maxRecDepth 1000000 in
theorem pre_tf_114 (g : Nat → Value) (s : ByteArray) (b f i B n fu dr : Nat) (x : LxS) (w : World) (Q0 : Exit → Act → World → Prop) (h : THead s b f i B x w) (hf3 : n + fu = 3) (hr : prefFrom s i fu false true n = prefOf s i) (hlt : i + n < s.size) (hn : n < 3) (hc : bt s (i + n) = 114) :
    Code.wp Tryz.prog tLoopP (Exit.then (fun a' w' => PInv s b i w a' w' ∧ 3 - (intOf (sl a' 9)).toNat < 3 - n) Q0) ⟨#[.pointer (some ⟨b, 0, none⟩), .bool false, g 2, g 3, g 4, g 5, g 6, .bool true, .bool false, .int .i64 (n : Int), g 10, g 11, g 12, g 13, g 14, g 15, g 16, g 17, g 18, g 19, g 20, g 21, g 22, g 23, g 24, g 25, g 26, g 27, g 28, g 29, g 30, g 31, g 32, g 33, g 34, g 35, g 36, g 37, g 38, g 39, g 40, g 41, g 42, g 43, g 44, g 45, g 46, g 47, g 48, g 49, g 50, g 51, g 52, g 53, g 54, g 55, g 56, g 57, g 58, g 59, g 60, g 61, g 62, g 63, g 64, g 65, g 66, g 67, g 68, g 69, g 70, g 71, g 72, g 73, g 74, g 75, g 76, g 77, g 78, g 79, g 80, g 81, g 82, g 83, g 84, g 85, g 86, g 87, g 88, g 89, g 90, g 91, g 92, g 93, g 94, g 95, g 96, g 97, g 98, g 99, g 100, g 101, g 102, g 103, g 104, g 105, g 106, g 107, g 108, g 109, g 110, g 111, g 112, g 113, g 114, g 115, g 116, g 117, g 118, g 119, g 120, g 121, g 122, g 123, g 124, g 125, g 126, g 127, g 128, g 129, g 130, g 131, g 132, g 133, g 134, g 135, g 136, g 137, g 138, g 139, g 140, g 141, g 142, g 143, g 144, g 145, g 146, g 147, g 148, g 149, g 150, g 151, g 152, g 153, g 154, g 155, g 156, g 157, g 158, g 159, g 160, g 161, g 162, g 163, g 164, g 165, g 166, g 167, g 168, g 169, g 170, g 171, g 172, g 173, g 174, g 175, g 176, g 177, g 178, g 179, g 180, g 181, g 182, g 183, g 184, g 185, g 186, g 187, g 188, g 189, g 190, g 191, g 192, g 193, g 194, g 195, g 196, g 197, g 198, g 199, g 200, g 201, g 202, g 203, g 204, g 205, g 206, g 207, g 208, g 209, g 210, g 211, g 212, g 213, g 214, g 215, g 216, g 217, g 218, g 219, g 220, g 221, g 222, g 223, g 224, g 225, g 226, g 227, g 228, g 229, g 230, g 231, g 232, g 233, g 234, g 235, g 236, g 237, g 238, g 239, g 240, g 241, g 242, g 243, g 244, g 245, g 246, g 247, g 248, g 249, g 250, g 251, g 252, g 253, g 254, g 255, g 256, g 257, g 258, g 259, g 260, g 261, g 262, g 263, g 264, g 265, g 266, g 267, g 268, g 269, g 270, g 271, g 272, g 273, g 274, g 275, g 276, g 277, g 278, g 279, g 280, g 281, g 282, g 283, g 284, g 285, g 286, g 287, g 288, g 289, g 290, g 291, g 292, g 293, g 294, g 295, g 296, g 297, g 298, g 299, g 300, g 301, g 302, g 303, g 304, g 305, g 306, g 307, g 308, g 309, g 310, g 311, g 312, g 313, g 314, g 315, g 316, g 317, g 318, g 319, g 320, g 321, g 322, g 323, g 324, g 325, g 326, g 327, g 328, g 329, g 330, g 331, g 332, g 333, g 334, g 335, g 336, g 337, g 338, g 339, g 340, g 341, g 342, g 343, g 344, g 345, g 346, g 347, g 348, g 349, g 350, g 351, g 352, g 353, g 354, g 355, g 356, g 357, g 358, g 359, g 360, g 361, g 362, g 363, g 364, g 365, g 366, g 367, g 368, g 369, g 370, g 371, g 372, g 373, g 374, g 375, g 376, g 377, g 378, g 379, g 380, g 381, g 382, g 383, g 384, g 385, g 386, g 387, g 388, g 389, g 390, g 391, g 392, g 393, g 394, g 395, g 396, g 397, g 398, g 399, g 400, g 401, g 402, g 403, g 404, g 405, g 406, g 407, g 408, g 409, g 410, g 411, g 412, g 413, g 414, g 415, g 416, g 417, g 418, g 419, g 420, g 421, g 422, g 423, g 424, g 425, g 426, g 427, g 428, g 429, g 430, g 431, g 432, g 433, g 434, g 435, g 436, g 437, g 438, g 439, g 440, g 441, g 442, g 443, g 444, g 445, g 446, g 447, g 448, g 449, g 450, g 451, g 452, g 453, g 454, g 455, g 456, g 457, g 458, g 459, g 460, g 461, g 462, g 463], []⟩ (w.drewN dr) := by
  conv => arg 2; whnf
  have hs := h.env.small
  have hnb : decide ((n : Int) < 3) = true := by simp; omega
  have Hc := Lib.hid hc
  clear hc
  have Hgo : Hid (prefFrom s i (fu - 1) true true (n + 1) = prefOf s i) := by
    show _ = _
    rw [← hr]
    obtain ⟨k, rfl⟩ : ∃ k, fu = k + 1 := ⟨fu - 1, by omega⟩
    exact (prefFrom_raw hlt (by have := Hc.out; omega)).symm
  clear hr
  go_wp2_with fail
  refine (h.peekOk dr n _ rfl (by omega)).mono ?_
  rintro e w' ⟨rfl, n1, rfl⟩
  rw [decide_eq_true hlt]
  go_wp2_with fail
  refine (h.peekIs n1 n _ 82 rfl (by omega)).mono ?_
  rintro e w' ⟨rfl, n2, rfl⟩
  rw [decide_eq_false (show ¬ (i + n < s.size ∧ bt s (i + n) = 82) from by have := Hc.out; omega)]
  go_wp2_with fail
  refine (h.peekIs n2 n _ 114 rfl (by omega)).mono ?_
  rintro e w' ⟨rfl, n3, rfl⟩
  rw [decide_eq_true (show (i + n < s.size ∧ bt s (i + n) = 114) from by have := Hc.out; omega)]
  go_wp2_with fail
  refine ⟨⟨rfl, rfl, rfl, rfl, n + 1, fu - 1, true, true, rfl, rfl, rfl, by omega, Hgo.out, _, rfl⟩, ?_⟩
  show 3 - ((n : Int) + 1).toNat < _
  omega
set_option maxHeartbeats 8000000 in
set_option maxRecDepth 1000000 in
theorem pre_tf_34 (g : Nat → Value) (s : ByteArray) (b f i B n fu dr : Nat) (x : LxS) (w : World) (Q0 : Exit → Act → World → Prop) (h : THead s b f i B x w) (hf3 : n + fu = 3) (hr : prefFrom s i fu false true n = prefOf s i) (hlt : i + n < s.size) (hn : n < 3) (hc : bt s (i + n) = 34) (after : Bool) (hret : ∀ p, prefOf s i = some p → ∀ a' w', a'.defers = [] → Step b f x B (tokStep x after (quotTok s (i + p.1) p.2.1 p.2.2)) w (.returned (.tuple #[])) w' → Q0 .ret a' w')
    (hpan : ∀ p, prefOf s i = some p → ∀ a' w' ch, a'.defers = [] → Step b f x B (tokStep x after (quotTok s (i + p.1) p.2.1 p.2.2)) w (.panicked ch) w' → Q0 (.panic ch) a' w') :
    Code.wp Tryz.prog tLoopP (Exit.then (fun a' w' => PInv s b i w a' w' ∧ 3 - (intOf (sl a' 9)).toNat < 3 - n) Q0) ⟨#[.pointer (some ⟨b, 0, none⟩), .bool false, g 2, g 3, g 4, g 5, g 6, .bool true, .bool false, .int .i64 (n : Int), g 10, g 11, g 12, g 13, g 14, g 15, g 16, g 17, g 18, g 19, g 20, g 21, g 22, g 23, g 24, g 25, g 26, g 27, g 28, g 29, g 30, g 31, g 32, g 33, g 34, g 35, g 36, g 37, g 38, g 39, g 40, g 41, g 42, g 43, g 44, g 45, g 46, g 47, g 48, g 49, g 50, g 51, g 52, g 53, g 54, g 55, g 56, g 57, g 58, g 59, g 60, g 61, g 62, g 63, g 64, g 65, g 66, g 67, g 68, g 69, g 70, g 71, g 72, g 73, g 74, g 75, g 76, g 77, g 78, g 79, g 80, g 81, g 82, g 83, g 84, g 85, g 86, g 87, g 88, g 89, g 90, g 91, g 92, g 93, g 94, g 95, g 96, g 97, g 98, g 99, g 100, g 101, g 102, g 103, g 104, g 105, g 106, g 107, g 108, g 109, g 110, g 111, g 112, g 113, g 114, g 115, g 116, g 117, g 118, g 119, g 120, g 121, g 122, g 123, g 124, g 125, g 126, g 127, g 128, g 129, g 130, g 131, g 132, g 133, g 134, g 135, g 136, g 137, g 138, g 139, g 140, g 141, g 142, g 143, g 144, g 145, g 146, g 147, g 148, g 149, g 150, g 151, g 152, g 153, g 154, g 155, g 156, g 157, g 158, g 159, g 160, g 161, g 162, g 163, g 164, g 165, g 166, g 167, g 168, g 169, g 170, g 171, g 172, g 173, g 174, g 175, g 176, g 177, g 178, g 179, g 180, g 181, g 182, g 183, g 184, g 185, g 186, g 187, g 188, g 189, g 190, g 191, g 192, g 193, g 194, g 195, g 196, g 197, g 198, g 199, g 200, g 201, g 202, g 203, g 204, g 205, g 206, g 207, g 208, g 209, g 210, g 211, g 212, g 213, g 214, g 215, g 216, g 217, g 218, g 219, g 220, g 221, g 222, g 223, g 224, g 225, g 226, g 227, g 228, g 229, g 230, g 231, g 232, g 233, g 234, g 235, g 236, g 237, g 238, g 239, g 240, g 241, g 242, g 243, g 244, g 245, g 246, g 247, g 248, g 249, g 250, g 251, g 252, g 253, g 254, g 255, g 256, g 257, g 258, g 259, g 260, g 261, g 262, g 263, g 264, g 265, g 266, g 267, g 268, g 269, g 270, g 271, g 272, g 273, g 274, g 275, g 276, g 277, g 278, g 279, g 280, g 281, g 282, g 283, g 284, g 285, g 286, g 287, g 288, g 289, g 290, g 291, g 292, g 293, g 294, g 295, g 296, g 297, g 298, g 299, g 300, g 301, g 302, g 303, g 304, g 305, g 306, g 307, g 308, g 309, g 310, g 311, g 312, g 313, g 314, g 315, g 316, g 317, g 318, g 319, g 320, g 321, g 322, g 323, g 324, g 325, g 326, g 327, g 328, g 329, g 330, g 331, g 332, g 333, g 334, g 335, g 336, g 337, g 338, g 339, g 340, g 341, g 342, g 343, g 344, g 345, g 346, g 347, g 348, g 349, g 350, g 351, g 352, g 353, g 354, g 355, g 356, g 357, g 358, g 359, g 360, g 361, g 362, g 363, g 364, g 365, g 366, g 367, g 368, g 369, g 370, g 371, g 372, g 373, g 374, g 375, g 376, g 377, g 378, g 379, g 380, g 381, g 382, g 383, g 384, g 385, g 386, g 387, g 388, g 389, g 390, g 391, g 392, g 393, g 394, g 395, g 396, g 397, g 398, g 399, g 400, g 401, g 402, g 403, g 404, g 405, g 406, g 407, g 408, g 409, g 410, g 411, g 412, g 413, g 414, g 415, g 416, g 417, g 418, g 419, g 420, g 421, g 422, g 423, g 424, g 425, g 426, g 427, g 428, g 429, g 430, g 431, g 432, g 433, g 434, g 435, g 436, g 437, g 438, g 439, g 440, g 441, g 442, g 443, g 444, g 445, g 446, g 447, g 448, g 449, g 450, g 451, g 452, g 453, g 454, g 455, g 456, g 457, g 458, g 459, g 460, g 461, g 462, g 463], []⟩ (w.drewN dr) := by
  conv => arg 2; whnf
  have hs := h.env.small
  have hnb : decide ((n : Int) < 3) = true := by simp; omega
  have Hc := Lib.hid hc
  clear hc
  have Hpr : Hid (prefOf s i = some (n, false, true)) := by
    show _ = _
    rw [← hr]
    obtain ⟨k, rfl⟩ : ∃ k, fu = k + 1 := ⟨fu - 1, by omega⟩
    exact prefFrom_quote hlt (by have := Hc.out; omega)
  have Hret := Lib.hid (hret _ Hpr.out)
  have Hpan := Lib.hid (hpan _ Hpr.out)
  clear hret hpan
  clear hr
  go_wp2_with fail
  refine (h.peekOk dr n _ rfl (by omega)).mono ?_
  rintro e w' ⟨rfl, n1, rfl⟩
  rw [decide_eq_true hlt]
  go_wp2_with fail
  refine (h.peekIs n1 n _ 82 rfl (by omega)).mono ?_
  rintro e w' ⟨rfl, n2, rfl⟩
  rw [decide_eq_false (show ¬ (i + n < s.size ∧ bt s (i + n) = 82) from by have := Hc.out; omega)]
  go_wp2_with fail
  refine (h.peekIs n2 n _ 114 rfl (by omega)).mono ?_
  rintro e w' ⟨rfl, n3, rfl⟩
  rw [decide_eq_false (show ¬ (i + n < s.size ∧ bt s (i + n) = 114) from by have := Hc.out; omega)]
  go_wp2_with fail
  refine (h.peekIs n3 n _ 34 rfl (by omega)).mono ?_
  rintro e w' ⟨rfl, n4, rfl⟩
  rw [decide_eq_true (show (i + n < s.size ∧ bt s (i + n) = 34) from by have := Hc.out; omega)]
  go_wp2_with fail
  refine (h.skipN n4 n _ rfl (by omega)).mono ?_
  rintro e w' ⟨rfl, hw⟩
  have hx2 := ((h.dn n4).lx).setPos ((i + n : Nat) : Int)
  have hO2 := ((Only.refl b w).dn n4).setCell 9 (.int .i64 ((i + n : Nat) : Int))
  obtain ⟨W, hW⟩ : ∃ W, (w.drewN n4).setCell ⟨b, 9, none⟩ (.int .i64 ((i + n : Nat) : Int)) = W := ⟨_, rfl⟩
  rw [hW] at hx2 hO2 hw
  replace hw := hw.symm
  subst hw
  clear hW
  have h3 : THead s b f (i + n) B { x with pos := ((i + n : Nat) : Int) } W := ⟨h.env.only hO2, hx2, rfl, by omega, h.ok, h.esc⟩
  have H3 := Lib.hid h3
  have HO2 := Lib.hid hO2
  clear hx2 hO2 h3
  go_wp2_with fail
  refine (consumeBytes_c s b f (i + n) B { x with pos := ((i + n : Nat) : Int) } after W H3.out hlt (by have := Hc.out; omega)).mono ?_
  rintro e w' k
  rw [tokStep_pos] at k
  have k2 := k.low (y := x) HO2.out h.lx h.env.bb h.env.bw
  clear k
  rcases k2.shape with rfl | ⟨v, rfl⟩
  · have K2 := Lib.hid k2
    clear k2
    go_wp2_with fail
    exact Hret.out _ _ rfl K2.out
  · exact Hpan.out _ _ _ rfl k2
set_option maxHeartbeats 8000000 in
set_option maxRecDepth 1000000 in
theorem pre_tf_39 (g : Nat → Value) (s : ByteArray) (b f i B n fu dr : Nat) (x : LxS) (w : World) (Q0 : Exit → Act → World → Prop) (h : THead s b f i B x w) (hf3 : n + fu = 3) (hr : prefFrom s i fu false true n = prefOf s i) (hlt : i + n < s.size) (hn : n < 3) (hc : bt s (i + n) = 39) (after : Bool) (hret : ∀ p, prefOf s i = some p → ∀ a' w', a'.defers = [] → Step b f x B (tokStep x after (quotTok s (i + p.1) p.2.1 p.2.2)) w (.returned (.tuple #[])) w' → Q0 .ret a' w')
    (hpan : ∀ p, prefOf s i = some p → ∀ a' w' ch, a'.defers = [] → Step b f x B (tokStep x after (quotTok s (i + p.1) p.2.1 p.2.2)) w (.panicked ch) w' → Q0 (.panic ch) a' w') :
    Code.wp Tryz.prog tLoopP (Exit.then (fun a' w' => PInv s b i w a' w' ∧ 3 - (intOf (sl a' 9)).toNat < 3 - n) Q0) ⟨#[.pointer (some ⟨b, 0, none⟩), .bool false, g 2, g 3, g 4, g 5, g 6, .bool true, .bool false, .int .i64 (n : Int), g 10, g 11, g 12, g 13, g 14, g 15, g 16, g 17, g 18, g 19, g 20, g 21, g 22, g 23, g 24, g 25, g 26, g 27, g 28, g 29, g 30, g 31, g 32, g 33, g 34, g 35, g 36, g 37, g 38, g 39, g 40, g 41, g 42, g 43, g 44, g 45, g 46, g 47, g 48, g 49, g 50, g 51, g 52, g 53, g 54, g 55, g 56, g 57, g 58, g 59, g 60, g 61, g 62, g 63, g 64, g 65, g 66, g 67, g 68, g 69, g 70, g 71, g 72, g 73, g 74, g 75, g 76, g 77, g 78, g 79, g 80, g 81, g 82, g 83, g 84, g 85, g 86, g 87, g 88, g 89, g 90, g 91, g 92, g 93, g 94, g 95, g 96, g 97, g 98, g 99, g 100, g 101, g 102, g 103, g 104, g 105, g 106, g 107, g 108, g 109, g 110, g 111, g 112, g 113, g 114, g 115, g 116, g 117, g 118, g 119, g 120, g 121, g 122, g 123, g 124, g 125, g 126, g 127, g 128, g 129, g 130, g 131, g 132, g 133, g 134, g 135, g 136, g 137, g 138, g 139, g 140, g 141, g 142, g 143, g 144, g 145, g 146, g 147, g 148, g 149, g 150, g 151, g 152, g 153, g 154, g 155, g 156, g 157, g 158, g 159, g 160, g 161, g 162, g 163, g 164, g 165, g 166, g 167, g 168, g 169, g 170, g 171, g 172, g 173, g 174, g 175, g 176, g 177, g 178, g 179, g 180, g 181, g 182, g 183, g 184, g 185, g 186, g 187, g 188, g 189, g 190, g 191, g 192, g 193, g 194, g 195, g 196, g 197, g 198, g 199, g 200, g 201, g 202, g 203, g 204, g 205, g 206, g 207, g 208, g 209, g 210, g 211, g 212, g 213, g 214, g 215, g 216, g 217, g 218, g 219, g 220, g 221, g 222, g 223, g 224, g 225, g 226, g 227, g 228, g 229, g 230, g 231, g 232, g 233, g 234, g 235, g 236, g 237, g 238, g 239, g 240, g 241, g 242, g 243, g 244, g 245, g 246, g 247, g 248, g 249, g 250, g 251, g 252, g 253, g 254, g 255, g 256, g 257, g 258, g 259, g 260, g 261, g 262, g 263, g 264, g 265, g 266, g 267, g 268, g 269, g 270, g 271, g 272, g 273, g 274, g 275, g 276, g 277, g 278, g 279, g 280, g 281, g 282, g 283, g 284, g 285, g 286, g 287, g 288, g 289, g 290, g 291, g 292, g 293, g 294, g 295, g 296, g 297, g 298, g 299, g 300, g 301, g 302, g 303, g 304, g 305, g 306, g 307, g 308, g 309, g 310, g 311, g 312, g 313, g 314, g 315, g 316, g 317, g 318, g 319, g 320, g 321, g 322, g 323, g 324, g 325, g 326, g 327, g 328, g 329, g 330, g 331, g 332, g 333, g 334, g 335, g 336, g 337, g 338, g 339, g 340, g 341, g 342, g 343, g 344, g 345, g 346, g 347, g 348, g 349, g 350, g 351, g 352, g 353, g 354, g 355, g 356, g 357, g 358, g 359, g 360, g 361, g 362, g 363, g 364, g 365, g 366, g 367, g 368, g 369, g 370, g 371, g 372, g 373, g 374, g 375, g 376, g 377, g 378, g 379, g 380, g 381, g 382, g 383, g 384, g 385, g 386, g 387, g 388, g 389, g 390, g 391, g 392, g 393, g 394, g 395, g 396, g 397, g 398, g 399, g 400, g 401, g 402, g 403, g 404, g 405, g 406, g 407, g 408, g 409, g 410, g 411, g 412, g 413, g 414, g 415, g 416, g 417, g 418, g 419, g 420, g 421, g 422, g 423, g 424, g 425, g 426, g 427, g 428, g 429, g 430, g 431, g 432, g 433, g 434, g 435, g 436, g 437, g 438, g 439, g 440, g 441, g 442, g 443, g 444, g 445, g 446, g 447, g 448, g 449, g 450, g 451, g 452, g 453, g 454, g 455, g 456, g 457, g 458, g 459, g 460, g 461, g 462, g 463], []⟩ (w.drewN dr) := by
  conv => arg 2; whnf
  have hs := h.env.small
  have hnb : decide ((n : Int) < 3) = true := by simp; omega
  have Hc := Lib.hid hc
  clear hc
  have Hpr : Hid (prefOf s i = some (n, false, true)) := by
    show _ = _
    rw [← hr]
    obtain ⟨k, rfl⟩ : ∃ k, fu = k + 1 := ⟨fu - 1, by omega⟩
    exact prefFrom_quote hlt (by have := Hc.out; omega)
  have Hret := Lib.hid (hret _ Hpr.out)
  have Hpan := Lib.hid (hpan _ Hpr.out)
  clear hret hpan
  clear hr
  go_wp2_with fail
  refine (h.peekOk dr n _ rfl (by omega)).mono ?_
  rintro e w' ⟨rfl, n1, rfl⟩
  rw [decide_eq_true hlt]
  go_wp2_with fail
  refine (h.peekIs n1 n _ 82 rfl (by omega)).mono ?_
  rintro e w' ⟨rfl, n2, rfl⟩
  rw [decide_eq_false (show ¬ (i + n < s.size ∧ bt s (i + n) = 82) from by have := Hc.out; omega)]
  go_wp2_with fail
  refine (h.peekIs n2 n _ 114 rfl (by omega)).mono ?_
  rintro e w' ⟨rfl, n3, rfl⟩
  rw [decide_eq_false (show ¬ (i + n < s.size ∧ bt s (i + n) = 114) from by have := Hc.out; omega)]
  go_wp2_with fail
  refine (h.peekIs n3 n _ 34 rfl (by omega)).mono ?_
  rintro e w' ⟨rfl, n4, rfl⟩
  rw [decide_eq_false (show ¬ (i + n < s.size ∧ bt s (i + n) = 34) from by have := Hc.out; omega)]
  go_wp2_with fail
  refine (h.peekIs n4 n _ 39 rfl (by omega)).mono ?_
  rintro e w' ⟨rfl, n5, rfl⟩
  rw [decide_eq_true (show (i + n < s.size ∧ bt s (i + n) = 39) from by have := Hc.out; omega)]
  go_wp2_with fail
  refine (h.skipN n5 n _ rfl (by omega)).mono ?_
  rintro e w' ⟨rfl, hw⟩
  have hx2 := ((h.dn n5).lx).setPos ((i + n : Nat) : Int)
  have hO2 := ((Only.refl b w).dn n5).setCell 9 (.int .i64 ((i + n : Nat) : Int))
  obtain ⟨W, hW⟩ : ∃ W, (w.drewN n5).setCell ⟨b, 9, none⟩ (.int .i64 ((i + n : Nat) : Int)) = W := ⟨_, rfl⟩
  rw [hW] at hx2 hO2 hw
  replace hw := hw.symm
  subst hw
  clear hW
  have h3 : THead s b f (i + n) B { x with pos := ((i + n : Nat) : Int) } W := ⟨h.env.only hO2, hx2, rfl, by omega, h.ok, h.esc⟩
  have H3 := Lib.hid h3
  have HO2 := Lib.hid hO2
  clear hx2 hO2 h3
  go_wp2_with fail
  refine (consumeBytes_c s b f (i + n) B { x with pos := ((i + n : Nat) : Int) } after W H3.out hlt (by have := Hc.out; omega)).mono ?_
  rintro e w' k
  rw [tokStep_pos] at k
  have k2 := k.low (y := x) HO2.out h.lx h.env.bb h.env.bw
  clear k
  rcases k2.shape with rfl | ⟨v, rfl⟩
  · have K2 := Lib.hid k2
    clear k2
    go_wp2_with fail
    exact Hret.out _ _ rfl K2.out
  · exact Hpan.out _ _ _ rfl k2
set_option maxHeartbeats 8000000 in
set_option maxRecDepth 1000000 in
theorem pre_tf_no (g : Nat → Value) (s : ByteArray) (b f i B n fu dr : Nat) (x : LxS) (w : World) (Q0 : Exit → Act → World → Prop) (h : THead s b f i B x w) (hf3 : n + fu = 3) (hr : prefFrom s i fu false true n = prefOf s i) (hlt : i + n < s.size) (hn : n < 3) (hw : bt s (i + n) ≠ 82 ∧ bt s (i + n) ≠ 114) (hq : bt s (i + n) ≠ 34 ∧ bt s (i + n) ≠ 39) (hexit : prefOf s i = none → ∀ a' w', a'.tmps.toList.length = 464 → a'.defers = [] → sl a' 0 = .pointer (some ⟨b, 0, none⟩) → sl a' 1 = .bool false → (∃ dr, w' = w.drewN dr) → Q0 (.exit 9) a' w') :
    Code.wp Tryz.prog tLoopP (Exit.then (fun a' w' => PInv s b i w a' w' ∧ 3 - (intOf (sl a' 9)).toNat < 3 - n) Q0) ⟨#[.pointer (some ⟨b, 0, none⟩), .bool false, g 2, g 3, g 4, g 5, g 6, .bool true, .bool false, .int .i64 (n : Int), g 10, g 11, g 12, g 13, g 14, g 15, g 16, g 17, g 18, g 19, g 20, g 21, g 22, g 23, g 24, g 25, g 26, g 27, g 28, g 29, g 30, g 31, g 32, g 33, g 34, g 35, g 36, g 37, g 38, g 39, g 40, g 41, g 42, g 43, g 44, g 45, g 46, g 47, g 48, g 49, g 50, g 51, g 52, g 53, g 54, g 55, g 56, g 57, g 58, g 59, g 60, g 61, g 62, g 63, g 64, g 65, g 66, g 67, g 68, g 69, g 70, g 71, g 72, g 73, g 74, g 75, g 76, g 77, g 78, g 79, g 80, g 81, g 82, g 83, g 84, g 85, g 86, g 87, g 88, g 89, g 90, g 91, g 92, g 93, g 94, g 95, g 96, g 97, g 98, g 99, g 100, g 101, g 102, g 103, g 104, g 105, g 106, g 107, g 108, g 109, g 110, g 111, g 112, g 113, g 114, g 115, g 116, g 117, g 118, g 119, g 120, g 121, g 122, g 123, g 124, g 125, g 126, g 127, g 128, g 129, g 130, g 131, g 132, g 133, g 134, g 135, g 136, g 137, g 138, g 139, g 140, g 141, g 142, g 143, g 144, g 145, g 146, g 147, g 148, g 149, g 150, g 151, g 152, g 153, g 154, g 155, g 156, g 157, g 158, g 159, g 160, g 161, g 162, g 163, g 164, g 165, g 166, g 167, g 168, g 169, g 170, g 171, g 172, g 173, g 174, g 175, g 176, g 177, g 178, g 179, g 180, g 181, g 182, g 183, g 184, g 185, g 186, g 187, g 188, g 189, g 190, g 191, g 192, g 193, g 194, g 195, g 196, g 197, g 198, g 199, g 200, g 201, g 202, g 203, g 204, g 205, g 206, g 207, g 208, g 209, g 210, g 211, g 212, g 213, g 214, g 215, g 216, g 217, g 218, g 219, g 220, g 221, g 222, g 223, g 224, g 225, g 226, g 227, g 228, g 229, g 230, g 231, g 232, g 233, g 234, g 235, g 236, g 237, g 238, g 239, g 240, g 241, g 242, g 243, g 244, g 245, g 246, g 247, g 248, g 249, g 250, g 251, g 252, g 253, g 254, g 255, g 256, g 257, g 258, g 259, g 260, g 261, g 262, g 263, g 264, g 265, g 266, g 267, g 268, g 269, g 270, g 271, g 272, g 273, g 274, g 275, g 276, g 277, g 278, g 279, g 280, g 281, g 282, g 283, g 284, g 285, g 286, g 287, g 288, g 289, g 290, g 291, g 292, g 293, g 294, g 295, g 296, g 297, g 298, g 299, g 300, g 301, g 302, g 303, g 304, g 305, g 306, g 307, g 308, g 309, g 310, g 311, g 312, g 313, g 314, g 315, g 316, g 317, g 318, g 319, g 320, g 321, g 322, g 323, g 324, g 325, g 326, g 327, g 328, g 329, g 330, g 331, g 332, g 333, g 334, g 335, g 336, g 337, g 338, g 339, g 340, g 341, g 342, g 343, g 344, g 345, g 346, g 347, g 348, g 349, g 350, g 351, g 352, g 353, g 354, g 355, g 356, g 357, g 358, g 359, g 360, g 361, g 362, g 363, g 364, g 365, g 366, g 367, g 368, g 369, g 370, g 371, g 372, g 373, g 374, g 375, g 376, g 377, g 378, g 379, g 380, g 381, g 382, g 383, g 384, g 385, g 386, g 387, g 388, g 389, g 390, g 391, g 392, g 393, g 394, g 395, g 396, g 397, g 398, g 399, g 400, g 401, g 402, g 403, g 404, g 405, g 406, g 407, g 408, g 409, g 410, g 411, g 412, g 413, g 414, g 415, g 416, g 417, g 418, g 419, g 420, g 421, g 422, g 423, g 424, g 425, g 426, g 427, g 428, g 429, g 430, g 431, g 432, g 433, g 434, g 435, g 436, g 437, g 438, g 439, g 440, g 441, g 442, g 443, g 444, g 445, g 446, g 447, g 448, g 449, g 450, g 451, g 452, g 453, g 454, g 455, g 456, g 457, g 458, g 459, g 460, g 461, g 462, g 463], []⟩ (w.drewN dr) := by
  conv => arg 2; whnf
  have hs := h.env.small
  have hnb : decide ((n : Int) < 3) = true := by simp; omega
  have Hno : Hid (prefOf s i = none) := by
    show _ = _
    rw [← hr]
    obtain ⟨k, rfl⟩ : ∃ k, fu = k + 1 := ⟨fu - 1, by omega⟩
    exact prefFrom_none hlt (by omega) (by omega) (by rintro ⟨_, k⟩; cases k)
  have Hx := Lib.hid hexit
  clear hexit
  have Hhw := Lib.hid hw
  clear hw
  have Hhq := Lib.hid hq
  clear hq
  clear hr
  go_wp2_with fail
  refine (h.peekOk dr n _ rfl (by omega)).mono ?_
  rintro e w' ⟨rfl, n1, rfl⟩
  rw [decide_eq_true hlt]
  go_wp2_with fail
  refine (h.peekIs n1 n _ 82 rfl (by omega)).mono ?_
  rintro e w' ⟨rfl, n2, rfl⟩
  rw [decide_eq_false (show ¬ (i + n < s.size ∧ bt s (i + n) = 82) from fun k => by have := Hhw.out; omega)]
  go_wp2_with fail
  refine (h.peekIs n2 n _ 114 rfl (by omega)).mono ?_
  rintro e w' ⟨rfl, n3, rfl⟩
  rw [decide_eq_false (show ¬ (i + n < s.size ∧ bt s (i + n) = 114) from fun k => by have := Hhw.out; omega)]
  go_wp2_with fail
  refine (h.peekIs n3 n _ 34 rfl (by omega)).mono ?_
  rintro e w' ⟨rfl, n4, rfl⟩
  rw [decide_eq_false (show ¬ (i + n < s.size ∧ bt s (i + n) = 34) from fun k => by have := Hhq.out; omega)]
  go_wp2_with fail
  refine (h.peekIs n4 n _ 39 rfl (by omega)).mono ?_
  rintro e w' ⟨rfl, n5, rfl⟩
  rw [decide_eq_false (show ¬ (i + n < s.size ∧ bt s (i + n) = 39) from fun k => by have := Hhq.out; omega)]
  go_wp2_with fail
  exact Hx.out Hno.out _ _ rfl rfl rfl rfl ⟨_, rfl⟩
set_option maxHeartbeats 8000000 in
set_option maxRecDepth 1000000 in
theorem pre_tt_34 (g : Nat → Value) (s : ByteArray) (b f i B n fu dr : Nat) (x : LxS) (w : World) (Q0 : Exit → Act → World → Prop) (h : THead s b f i B x w) (hf3 : n + fu = 3) (hr : prefFrom s i fu true true n = prefOf s i) (hlt : i + n < s.size) (hn : n < 3) (hc : bt s (i + n) = 34) (after : Bool) (hret : ∀ p, prefOf s i = some p → ∀ a' w', a'.defers = [] → Step b f x B (tokStep x after (quotTok s (i + p.1) p.2.1 p.2.2)) w (.returned (.tuple #[])) w' → Q0 .ret a' w')
    (hpan : ∀ p, prefOf s i = some p → ∀ a' w' ch, a'.defers = [] → Step b f x B (tokStep x after (quotTok s (i + p.1) p.2.1 p.2.2)) w (.panicked ch) w' → Q0 (.panic ch) a' w') :
    Code.wp Tryz.prog tLoopP (Exit.then (fun a' w' => PInv s b i w a' w' ∧ 3 - (intOf (sl a' 9)).toNat < 3 - n) Q0) ⟨#[.pointer (some ⟨b, 0, none⟩), .bool false, g 2, g 3, g 4, g 5, g 6, .bool true, .bool true, .int .i64 (n : Int), g 10, g 11, g 12, g 13, g 14, g 15, g 16, g 17, g 18, g 19, g 20, g 21, g 22, g 23, g 24, g 25, g 26, g 27, g 28, g 29, g 30, g 31, g 32, g 33, g 34, g 35, g 36, g 37, g 38, g 39, g 40, g 41, g 42, g 43, g 44, g 45, g 46, g 47, g 48, g 49, g 50, g 51, g 52, g 53, g 54, g 55, g 56, g 57, g 58, g 59, g 60, g 61, g 62, g 63, g 64, g 65, g 66, g 67, g 68, g 69, g 70, g 71, g 72, g 73, g 74, g 75, g 76, g 77, g 78, g 79, g 80, g 81, g 82, g 83, g 84, g 85, g 86, g 87, g 88, g 89, g 90, g 91, g 92, g 93, g 94, g 95, g 96, g 97, g 98, g 99, g 100, g 101, g 102, g 103, g 104, g 105, g 106, g 107, g 108, g 109, g 110, g 111, g 112, g 113, g 114, g 115, g 116, g 117, g 118, g 119, g 120, g 121, g 122, g 123, g 124, g 125, g 126, g 127, g 128, g 129, g 130, g 131, g 132, g 133, g 134, g 135, g 136, g 137, g 138, g 139, g 140, g 141, g 142, g 143, g 144, g 145, g 146, g 147, g 148, g 149, g 150, g 151, g 152, g 153, g 154, g 155, g 156, g 157, g 158, g 159, g 160, g 161, g 162, g 163, g 164, g 165, g 166, g 167, g 168, g 169, g 170, g 171, g 172, g 173, g 174, g 175, g 176, g 177, g 178, g 179, g 180, g 181, g 182, g 183, g 184, g 185, g 186, g 187, g 188, g 189, g 190, g 191, g 192, g 193, g 194, g 195, g 196, g 197, g 198, g 199, g 200, g 201, g 202, g 203, g 204, g 205, g 206, g 207, g 208, g 209, g 210, g 211, g 212, g 213, g 214, g 215, g 216, g 217, g 218, g 219, g 220, g 221, g 222, g 223, g 224, g 225, g 226, g 227, g 228, g 229, g 230, g 231, g 232, g 233, g 234, g 235, g 236, g 237, g 238, g 239, g 240, g 241, g 242, g 243, g 244, g 245, g 246, g 247, g 248, g 249, g 250, g 251, g 252, g 253, g 254, g 255, g 256, g 257, g 258, g 259, g 260, g 261, g 262, g 263, g 264, g 265, g 266, g 267, g 268, g 269, g 270, g 271, g 272, g 273, g 274, g 275, g 276, g 277, g 278, g 279, g 280, g 281, g 282, g 283, g 284, g 285, g 286, g 287, g 288, g 289, g 290, g 291, g 292, g 293, g 294, g 295, g 296, g 297, g 298, g 299, g 300, g 301, g 302, g 303, g 304, g 305, g 306, g 307, g 308, g 309, g 310, g 311, g 312, g 313, g 314, g 315, g 316, g 317, g 318, g 319, g 320, g 321, g 322, g 323, g 324, g 325, g 326, g 327, g 328, g 329, g 330, g 331, g 332, g 333, g 334, g 335, g 336, g 337, g 338, g 339, g 340, g 341, g 342, g 343, g 344, g 345, g 346, g 347, g 348, g 349, g 350, g 351, g 352, g 353, g 354, g 355, g 356, g 357, g 358, g 359, g 360, g 361, g 362, g 363, g 364, g 365, g 366, g 367, g 368, g 369, g 370, g 371, g 372, g 373, g 374, g 375, g 376, g 377, g 378, g 379, g 380, g 381, g 382, g 383, g 384, g 385, g 386, g 387, g 388, g 389, g 390, g 391, g 392, g 393, g 394, g 395, g 396, g 397, g 398, g 399, g 400, g 401, g 402, g 403, g 404, g 405, g 406, g 407, g 408, g 409, g 410, g 411, g 412, g 413, g 414, g 415, g 416, g 417, g 418, g 419, g 420, g 421, g 422, g 423, g 424, g 425, g 426, g 427, g 428, g 429, g 430, g 431, g 432, g 433, g 434, g 435, g 436, g 437, g 438, g 439, g 440, g 441, g 442, g 443, g 444, g 445, g 446, g 447, g 448, g 449, g 450, g 451, g 452, g 453, g 454, g 455, g 456, g 457, g 458, g 459, g 460, g 461, g 462, g 463], []⟩ (w.drewN dr) := by
  conv => arg 2; whnf
  have hs := h.env.small
  have hnb : decide ((n : Int) < 3) = true := by simp; omega
  have Hc := Lib.hid hc
  clear hc
  have Hpr : Hid (prefOf s i = some (n, true, true)) := by
    show _ = _
    rw [← hr]
    obtain ⟨k, rfl⟩ : ∃ k, fu = k + 1 := ⟨fu - 1, by omega⟩
    exact prefFrom_quote hlt (by have := Hc.out; omega)
  have Hret := Lib.hid (hret _ Hpr.out)
  have Hpan := Lib.hid (hpan _ Hpr.out)
  clear hret hpan
  clear hr
  go_wp2_with fail
  refine (h.peekOk dr n _ rfl (by omega)).mono ?_
  rintro e w' ⟨rfl, n1, rfl⟩
  rw [decide_eq_true hlt]
  go_wp2_with fail
  refine (h.peekIs n1 n _ 34 rfl (by omega)).mono ?_
  rintro e w' ⟨rfl, n2, rfl⟩
  rw [decide_eq_true (show (i + n < s.size ∧ bt s (i + n) = 34) from by have := Hc.out; omega)]
  go_wp2_with fail
  refine (h.skipN n2 n _ rfl (by omega)).mono ?_
  rintro e w' ⟨rfl, hw⟩
  have hx2 := ((h.dn n2).lx).setPos ((i + n : Nat) : Int)
  have hO2 := ((Only.refl b w).dn n2).setCell 9 (.int .i64 ((i + n : Nat) : Int))
  obtain ⟨W, hW⟩ : ∃ W, (w.drewN n2).setCell ⟨b, 9, none⟩ (.int .i64 ((i + n : Nat) : Int)) = W := ⟨_, rfl⟩
  rw [hW] at hx2 hO2 hw
  replace hw := hw.symm
  subst hw
  clear hW
  have h3 : THead s b f (i + n) B { x with pos := ((i + n : Nat) : Int) } W := ⟨h.env.only hO2, hx2, rfl, by omega, h.ok, h.esc⟩
  have H3 := Lib.hid h3
  have HO2 := Lib.hid hO2
  clear hx2 hO2 h3
  go_wp2_with fail
  refine (consumeRawBytes_c s b f (i + n) B { x with pos := ((i + n : Nat) : Int) } after W H3.out hlt (by have := Hc.out; omega)).mono ?_
  rintro e w' k
  rw [tokStep_pos] at k
  have k2 := k.low (y := x) HO2.out h.lx h.env.bb h.env.bw
  clear k
  rcases k2.shape with rfl | ⟨v, rfl⟩
  · have K2 := Lib.hid k2
    clear k2
    go_wp2_with fail
    exact Hret.out _ _ rfl K2.out
  · exact Hpan.out _ _ _ rfl k2
set_option maxHeartbeats 8000000 in
set_option maxRecDepth 1000000 in
theorem pre_tt_39 (g : Nat → Value) (s : ByteArray) (b f i B n fu dr : Nat) (x : LxS) (w : World) (Q0 : Exit → Act → World → Prop) (h : THead s b f i B x w) (hf3 : n + fu = 3) (hr : prefFrom s i fu true true n = prefOf s i) (hlt : i + n < s.size) (hn : n < 3) (hc : bt s (i + n) = 39) (after : Bool) (hret : ∀ p, prefOf s i = some p → ∀ a' w', a'.defers = [] → Step b f x B (tokStep x after (quotTok s (i + p.1) p.2.1 p.2.2)) w (.returned (.tuple #[])) w' → Q0 .ret a' w')
    (hpan : ∀ p, prefOf s i = some p → ∀ a' w' ch, a'.defers = [] → Step b f x B (tokStep x after (quotTok s (i + p.1) p.2.1 p.2.2)) w (.panicked ch) w' → Q0 (.panic ch) a' w') :
    Code.wp Tryz.prog tLoopP (Exit.then (fun a' w' => PInv s b i w a' w' ∧ 3 - (intOf (sl a' 9)).toNat < 3 - n) Q0) ⟨#[.pointer (some ⟨b, 0, none⟩), .bool false, g 2, g 3, g 4, g 5, g 6, .bool true, .bool true, .int .i64 (n : Int), g 10, g 11, g 12, g 13, g 14, g 15, g 16, g 17, g 18, g 19, g 20, g 21, g 22, g 23, g 24, g 25, g 26, g 27, g 28, g 29, g 30, g 31, g 32, g 33, g 34, g 35, g 36, g 37, g 38, g 39, g 40, g 41, g 42, g 43, g 44, g 45, g 46, g 47, g 48, g 49, g 50, g 51, g 52, g 53, g 54, g 55, g 56, g 57, g 58, g 59, g 60, g 61, g 62, g 63, g 64, g 65, g 66, g 67, g 68, g 69, g 70, g 71, g 72, g 73, g 74, g 75, g 76, g 77, g 78, g 79, g 80, g 81, g 82, g 83, g 84, g 85, g 86, g 87, g 88, g 89, g 90, g 91, g 92, g 93, g 94, g 95, g 96, g 97, g 98, g 99, g 100, g 101, g 102, g 103, g 104, g 105, g 106, g 107, g 108, g 109, g 110, g 111, g 112, g 113, g 114, g 115, g 116, g 117, g 118, g 119, g 120, g 121, g 122, g 123, g 124, g 125, g 126, g 127, g 128, g 129, g 130, g 131, g 132, g 133, g 134, g 135, g 136, g 137, g 138, g 139, g 140, g 141, g 142, g 143, g 144, g 145, g 146, g 147, g 148, g 149, g 150, g 151, g 152, g 153, g 154, g 155, g 156, g 157, g 158, g 159, g 160, g 161, g 162, g 163, g 164, g 165, g 166, g 167, g 168, g 169, g 170, g 171, g 172, g 173, g 174, g 175, g 176, g 177, g 178, g 179, g 180, g 181, g 182, g 183, g 184, g 185, g 186, g 187, g 188, g 189, g 190, g 191, g 192, g 193, g 194, g 195, g 196, g 197, g 198, g 199, g 200, g 201, g 202, g 203, g 204, g 205, g 206, g 207, g 208, g 209, g 210, g 211, g 212, g 213, g 214, g 215, g 216, g 217, g 218, g 219, g 220, g 221, g 222, g 223, g 224, g 225, g 226, g 227, g 228, g 229, g 230, g 231, g 232, g 233, g 234, g 235, g 236, g 237, g 238, g 239, g 240, g 241, g 242, g 243, g 244, g 245, g 246, g 247, g 248, g 249, g 250, g 251, g 252, g 253, g 254, g 255, g 256, g 257, g 258, g 259, g 260, g 261, g 262, g 263, g 264, g 265, g 266, g 267, g 268, g 269, g 270, g 271, g 272, g 273, g 274, g 275, g 276, g 277, g 278, g 279, g 280, g 281, g 282, g 283, g 284, g 285, g 286, g 287, g 288, g 289, g 290, g 291, g 292, g 293, g 294, g 295, g 296, g 297, g 298, g 299, g 300, g 301, g 302, g 303, g 304, g 305, g 306, g 307, g 308, g 309, g 310, g 311, g 312, g 313, g 314, g 315, g 316, g 317, g 318, g 319, g 320, g 321, g 322, g 323, g 324, g 325, g 326, g 327, g 328, g 329, g 330, g 331, g 332, g 333, g 334, g 335, g 336, g 337, g 338, g 339, g 340, g 341, g 342, g 343, g 344, g 345, g 346, g 347, g 348, g 349, g 350, g 351, g 352, g 353, g 354, g 355, g 356, g 357, g 358, g 359, g 360, g 361, g 362, g 363, g 364, g 365, g 366, g 367, g 368, g 369, g 370, g 371, g 372, g 373, g 374, g 375, g 376, g 377, g 378, g 379, g 380, g 381, g 382, g 383, g 384, g 385, g 386, g 387, g 388, g 389, g 390, g 391, g 392, g 393, g 394, g 395, g 396, g 397, g 398, g 399, g 400, g 401, g 402, g 403, g 404, g 405, g 406, g 407, g 408, g 409, g 410, g 411, g 412, g 413, g 414, g 415, g 416, g 417, g 418, g 419, g 420, g 421, g 422, g 423, g 424, g 425, g 426, g 427, g 428, g 429, g 430, g 431, g 432, g 433, g 434, g 435, g 436, g 437, g 438, g 439, g 440, g 441, g 442, g 443, g 444, g 445, g 446, g 447, g 448, g 449, g 450, g 451, g 452, g 453, g 454, g 455, g 456, g 457, g 458, g 459, g 460, g 461, g 462, g 463], []⟩ (w.drewN dr) := by
  conv => arg 2; whnf
  have hs := h.env.small
  have hnb : decide ((n : Int) < 3) = true := by simp; omega
  have Hc := Lib.hid hc
  clear hc
  have Hpr : Hid (prefOf s i = some (n, true, true)) := by
    show _ = _
    rw [← hr]
    obtain ⟨k, rfl⟩ : ∃ k, fu = k + 1 := ⟨fu - 1, by omega⟩
    exact prefFrom_quote hlt (by have := Hc.out; omega)
  have Hret := Lib.hid (hret _ Hpr.out)
  have Hpan := Lib.hid (hpan _ Hpr.out)
  clear hret hpan
  clear hr
  go_wp2_with fail
  refine (h.peekOk dr n _ rfl (by omega)).mono ?_
  rintro e w' ⟨rfl, n1, rfl⟩
  rw [decide_eq_true hlt]
  go_wp2_with fail
  refine (h.peekIs n1 n _ 34 rfl (by omega)).mono ?_
  rintro e w' ⟨rfl, n2, rfl⟩
  rw [decide_eq_false (show ¬ (i + n < s.size ∧ bt s (i + n) = 34) from by have := Hc.out; omega)]
  go_wp2_with fail
  refine (h.peekIs n2 n _ 39 rfl (by omega)).mono ?_
  rintro e w' ⟨rfl, n3, rfl⟩
  rw [decide_eq_true (show (i + n < s.size ∧ bt s (i + n) = 39) from by have := Hc.out; omega)]
  go_wp2_with fail
  refine (h.skipN n3 n _ rfl (by omega)).mono ?_
  rintro e w' ⟨rfl, hw⟩
  have hx2 := ((h.dn n3).lx).setPos ((i + n : Nat) : Int)
  have hO2 := ((Only.refl b w).dn n3).setCell 9 (.int .i64 ((i + n : Nat) : Int))
  obtain ⟨W, hW⟩ : ∃ W, (w.drewN n3).setCell ⟨b, 9, none⟩ (.int .i64 ((i + n : Nat) : Int)) = W := ⟨_, rfl⟩
  rw [hW] at hx2 hO2 hw
  replace hw := hw.symm
  subst hw
  clear hW
  have h3 : THead s b f (i + n) B { x with pos := ((i + n : Nat) : Int) } W := ⟨h.env.only hO2, hx2, rfl, by omega, h.ok, h.esc⟩
  have H3 := Lib.hid h3
  have HO2 := Lib.hid hO2
  clear hx2 hO2 h3
  go_wp2_with fail
  refine (consumeRawBytes_c s b f (i + n) B { x with pos := ((i + n : Nat) : Int) } after W H3.out hlt (by have := Hc.out; omega)).mono ?_
  rintro e w' k
  rw [tokStep_pos] at k
  have k2 := k.low (y := x) HO2.out h.lx h.env.bb h.env.bw
  clear k
  rcases k2.shape with rfl | ⟨v, rfl⟩
  · have K2 := Lib.hid k2
    clear k2
    go_wp2_with fail
    exact Hret.out _ _ rfl K2.out
  · exact Hpan.out _ _ _ rfl k2
set_option maxHeartbeats 8000000 in
set_option maxRecDepth 1000000 in
theorem pre_tt_no (g : Nat → Value) (s : ByteArray) (b f i B n fu dr : Nat) (x : LxS) (w : World) (Q0 : Exit → Act → World → Prop) (h : THead s b f i B x w) (hf3 : n + fu = 3) (hr : prefFrom s i fu true true n = prefOf s i) (hlt : i + n < s.size) (hn : n < 3) (hq : bt s (i + n) ≠ 34 ∧ bt s (i + n) ≠ 39) (hexit : prefOf s i = none → ∀ a' w', a'.tmps.toList.length = 464 → a'.defers = [] → sl a' 0 = .pointer (some ⟨b, 0, none⟩) → sl a' 1 = .bool false → (∃ dr, w' = w.drewN dr) → Q0 (.exit 9) a' w') :
    Code.wp Tryz.prog tLoopP (Exit.then (fun a' w' => PInv s b i w a' w' ∧ 3 - (intOf (sl a' 9)).toNat < 3 - n) Q0) ⟨#[.pointer (some ⟨b, 0, none⟩), .bool false, g 2, g 3, g 4, g 5, g 6, .bool true, .bool true, .int .i64 (n : Int), g 10, g 11, g 12, g 13, g 14, g 15, g 16, g 17, g 18, g 19, g 20, g 21, g 22, g 23, g 24, g 25, g 26, g 27, g 28, g 29, g 30, g 31, g 32, g 33, g 34, g 35, g 36, g 37, g 38, g 39, g 40, g 41, g 42, g 43, g 44, g 45, g 46, g 47, g 48, g 49, g 50, g 51, g 52, g 53, g 54, g 55, g 56, g 57, g 58, g 59, g 60, g 61, g 62, g 63, g 64, g 65, g 66, g 67, g 68, g 69, g 70, g 71, g 72, g 73, g 74, g 75, g 76, g 77, g 78, g 79, g 80, g 81, g 82, g 83, g 84, g 85, g 86, g 87, g 88, g 89, g 90, g 91, g 92, g 93, g 94, g 95, g 96, g 97, g 98, g 99, g 100, g 101, g 102, g 103, g 104, g 105, g 106, g 107, g 108, g 109, g 110, g 111, g 112, g 113, g 114, g 115, g 116, g 117, g 118, g 119, g 120, g 121, g 122, g 123, g 124, g 125, g 126, g 127, g 128, g 129, g 130, g 131, g 132, g 133, g 134, g 135, g 136, g 137, g 138, g 139, g 140, g 141, g 142, g 143, g 144, g 145, g 146, g 147, g 148, g 149, g 150, g 151, g 152, g 153, g 154, g 155, g 156, g 157, g 158, g 159, g 160, g 161, g 162, g 163, g 164, g 165, g 166, g 167, g 168, g 169, g 170, g 171, g 172, g 173, g 174, g 175, g 176, g 177, g 178, g 179, g 180, g 181, g 182, g 183, g 184, g 185, g 186, g 187, g 188, g 189, g 190, g 191, g 192, g 193, g 194, g 195, g 196, g 197, g 198, g 199, g 200, g 201, g 202, g 203, g 204, g 205, g 206, g 207, g 208, g 209, g 210, g 211, g 212, g 213, g 214, g 215, g 216, g 217, g 218, g 219, g 220, g 221, g 222, g 223, g 224, g 225, g 226, g 227, g 228, g 229, g 230, g 231, g 232, g 233, g 234, g 235, g 236, g 237, g 238, g 239, g 240, g 241, g 242, g 243, g 244, g 245, g 246, g 247, g 248, g 249, g 250, g 251, g 252, g 253, g 254, g 255, g 256, g 257, g 258, g 259, g 260, g 261, g 262, g 263, g 264, g 265, g 266, g 267, g 268, g 269, g 270, g 271, g 272, g 273, g 274, g 275, g 276, g 277, g 278, g 279, g 280, g 281, g 282, g 283, g 284, g 285, g 286, g 287, g 288, g 289, g 290, g 291, g 292, g 293, g 294, g 295, g 296, g 297, g 298, g 299, g 300, g 301, g 302, g 303, g 304, g 305, g 306, g 307, g 308, g 309, g 310, g 311, g 312, g 313, g 314, g 315, g 316, g 317, g 318, g 319, g 320, g 321, g 322, g 323, g 324, g 325, g 326, g 327, g 328, g 329, g 330, g 331, g 332, g 333, g 334, g 335, g 336, g 337, g 338, g 339, g 340, g 341, g 342, g 343, g 344, g 345, g 346, g 347, g 348, g 349, g 350, g 351, g 352, g 353, g 354, g 355, g 356, g 357, g 358, g 359, g 360, g 361, g 362, g 363, g 364, g 365, g 366, g 367, g 368, g 369, g 370, g 371, g 372, g 373, g 374, g 375, g 376, g 377, g 378, g 379, g 380, g 381, g 382, g 383, g 384, g 385, g 386, g 387, g 388, g 389, g 390, g 391, g 392, g 393, g 394, g 395, g 396, g 397, g 398, g 399, g 400, g 401, g 402, g 403, g 404, g 405, g 406, g 407, g 408, g 409, g 410, g 411, g 412, g 413, g 414, g 415, g 416, g 417, g 418, g 419, g 420, g 421, g 422, g 423, g 424, g 425, g 426, g 427, g 428, g 429, g 430, g 431, g 432, g 433, g 434, g 435, g 436, g 437, g 438, g 439, g 440, g 441, g 442, g 443, g 444, g 445, g 446, g 447, g 448, g 449, g 450, g 451, g 452, g 453, g 454, g 455, g 456, g 457, g 458, g 459, g 460, g 461, g 462, g 463], []⟩ (w.drewN dr) := by
  conv => arg 2; whnf
  have hs := h.env.small
  have hnb : decide ((n : Int) < 3) = true := by simp; omega
  have Hno : Hid (prefOf s i = none) := by
    show _ = _
    rw [← hr]
    obtain ⟨k, rfl⟩ : ∃ k, fu = k + 1 := ⟨fu - 1, by omega⟩
    exact prefFrom_none hlt (by omega) (by rintro ⟨_, k⟩; cases k) (by rintro ⟨_, k⟩; cases k)
  have Hx := Lib.hid hexit
  clear hexit
  have Hhq := Lib.hid hq
  clear hq
  clear hr
  go_wp2_with fail
  refine (h.peekOk dr n _ rfl (by omega)).mono ?_
  rintro e w' ⟨rfl, n1, rfl⟩
  rw [decide_eq_true hlt]
  go_wp2_with fail
  refine (h.peekIs n1 n _ 34 rfl (by omega)).mono ?_
  rintro e w' ⟨rfl, n2, rfl⟩
  rw [decide_eq_false (show ¬ (i + n < s.size ∧ bt s (i + n) = 34) from fun k => by have := Hhq.out; omega)]
  go_wp2_with fail
  refine (h.peekIs n2 n _ 39 rfl (by omega)).mono ?_
  rintro e w' ⟨rfl, n3, rfl⟩
  rw [decide_eq_false (show ¬ (i + n < s.size ∧ bt s (i + n) = 39) from fun k => by have := Hhq.out; omega)]
  go_wp2_with fail
  exact Hx.out Hno.out _ _ rfl rfl rfl rfl ⟨_, rfl⟩
set_option maxHeartbeats 8000000 in
set_option maxRecDepth 1000000 in
theorem pre_end (by_ rw_ : Bool) (g : Nat → Value) (s : ByteArray) (b f i B n fu dr : Nat) (x : LxS) (w : World) (Q0 : Exit → Act → World → Prop) (h : THead s b f i B x w) (hf3 : n + fu = 3) (hr : prefFrom s i fu rw_ by_ n = prefOf s i) (hlt : ¬ (n < 3 ∧ i + n < s.size)) (hexit : prefOf s i = none → ∀ a' w', a'.tmps.toList.length = 464 → a'.defers = [] → sl a' 0 = .pointer (some ⟨b, 0, none⟩) → sl a' 1 = .bool false → (∃ dr, w' = w.drewN dr) → Q0 (.exit 9) a' w') :
    Code.wp Tryz.prog tLoopP (Exit.then (fun a' w' => PInv s b i w a' w' ∧ 3 - (intOf (sl a' 9)).toNat < 3 - n) Q0) ⟨#[.pointer (some ⟨b, 0, none⟩), .bool false, g 2, g 3, g 4, g 5, g 6, .bool by_, .bool rw_, .int .i64 (n : Int), g 10, g 11, g 12, g 13, g 14, g 15, g 16, g 17, g 18, g 19, g 20, g 21, g 22, g 23, g 24, g 25, g 26, g 27, g 28, g 29, g 30, g 31, g 32, g 33, g 34, g 35, g 36, g 37, g 38, g 39, g 40, g 41, g 42, g 43, g 44, g 45, g 46, g 47, g 48, g 49, g 50, g 51, g 52, g 53, g 54, g 55, g 56, g 57, g 58, g 59, g 60, g 61, g 62, g 63, g 64, g 65, g 66, g 67, g 68, g 69, g 70, g 71, g 72, g 73, g 74, g 75, g 76, g 77, g 78, g 79, g 80, g 81, g 82, g 83, g 84, g 85, g 86, g 87, g 88, g 89, g 90, g 91, g 92, g 93, g 94, g 95, g 96, g 97, g 98, g 99, g 100, g 101, g 102, g 103, g 104, g 105, g 106, g 107, g 108, g 109, g 110, g 111, g 112, g 113, g 114, g 115, g 116, g 117, g 118, g 119, g 120, g 121, g 122, g 123, g 124, g 125, g 126, g 127, g 128, g 129, g 130, g 131, g 132, g 133, g 134, g 135, g 136, g 137, g 138, g 139, g 140, g 141, g 142, g 143, g 144, g 145, g 146, g 147, g 148, g 149, g 150, g 151, g 152, g 153, g 154, g 155, g 156, g 157, g 158, g 159, g 160, g 161, g 162, g 163, g 164, g 165, g 166, g 167, g 168, g 169, g 170, g 171, g 172, g 173, g 174, g 175, g 176, g 177, g 178, g 179, g 180, g 181, g 182, g 183, g 184, g 185, g 186, g 187, g 188, g 189, g 190, g 191, g 192, g 193, g 194, g 195, g 196, g 197, g 198, g 199, g 200, g 201, g 202, g 203, g 204, g 205, g 206, g 207, g 208, g 209, g 210, g 211, g 212, g 213, g 214, g 215, g 216, g 217, g 218, g 219, g 220, g 221, g 222, g 223, g 224, g 225, g 226, g 227, g 228, g 229, g 230, g 231, g 232, g 233, g 234, g 235, g 236, g 237, g 238, g 239, g 240, g 241, g 242, g 243, g 244, g 245, g 246, g 247, g 248, g 249, g 250, g 251, g 252, g 253, g 254, g 255, g 256, g 257, g 258, g 259, g 260, g 261, g 262, g 263, g 264, g 265, g 266, g 267, g 268, g 269, g 270, g 271, g 272, g 273, g 274, g 275, g 276, g 277, g 278, g 279, g 280, g 281, g 282, g 283, g 284, g 285, g 286, g 287, g 288, g 289, g 290, g 291, g 292, g 293, g 294, g 295, g 296, g 297, g 298, g 299, g 300, g 301, g 302, g 303, g 304, g 305, g 306, g 307, g 308, g 309, g 310, g 311, g 312, g 313, g 314, g 315, g 316, g 317, g 318, g 319, g 320, g 321, g 322, g 323, g 324, g 325, g 326, g 327, g 328, g 329, g 330, g 331, g 332, g 333, g 334, g 335, g 336, g 337, g 338, g 339, g 340, g 341, g 342, g 343, g 344, g 345, g 346, g 347, g 348, g 349, g 350, g 351, g 352, g 353, g 354, g 355, g 356, g 357, g 358, g 359, g 360, g 361, g 362, g 363, g 364, g 365, g 366, g 367, g 368, g 369, g 370, g 371, g 372, g 373, g 374, g 375, g 376, g 377, g 378, g 379, g 380, g 381, g 382, g 383, g 384, g 385, g 386, g 387, g 388, g 389, g 390, g 391, g 392, g 393, g 394, g 395, g 396, g 397, g 398, g 399, g 400, g 401, g 402, g 403, g 404, g 405, g 406, g 407, g 408, g 409, g 410, g 411, g 412, g 413, g 414, g 415, g 416, g 417, g 418, g 419, g 420, g 421, g 422, g 423, g 424, g 425, g 426, g 427, g 428, g 429, g 430, g 431, g 432, g 433, g 434, g 435, g 436, g 437, g 438, g 439, g 440, g 441, g 442, g 443, g 444, g 445, g 446, g 447, g 448, g 449, g 450, g 451, g 452, g 453, g 454, g 455, g 456, g 457, g 458, g 459, g 460, g 461, g 462, g 463], []⟩ (w.drewN dr) := by
  conv => arg 2; whnf
  have hs := h.env.small
  have Hno : Hid (prefOf s i = none) := by
    show _ = _
    rw [← hr]
    by_cases hn : n < 3
    · exact prefFrom_end (by omega)
    · obtain rfl : fu = 0 := by omega
      rfl
  have Hx := Lib.hid hexit
  clear hexit hr
  by_cases hn : n < 3
  · have hnb : decide ((n : Int) < 3) = true := by simp; omega
    go_wp2_with fail
    refine (h.peekOk dr n _ rfl (by omega)).mono ?_
    rintro e w' ⟨rfl, n1, rfl⟩
    rw [decide_eq_false (show ¬ i + n < s.size by omega)]
    go_wp2_with fail
    exact Hx.out Hno.out _ _ rfl rfl rfl rfl ⟨_, rfl⟩
  · have hnb : decide ((n : Int) < 3) = false := by simp; omega
    go_wp2_with fail
    exact Hx.out Hno.out _ _ rfl rfl rfl rfl ⟨_, rfl⟩
end Go.Proofs.YtmkkeacbabmaeaaGreatDoor
namespace Go.Proofs.YtmkkeacbabmaeaaGreatDoor
open Go.RowKit Go.PlainAid

set_option maxHeartbeats 2000000 in
set_option maxRecDepth 1000000 in
theorem loopP_c (s : ByteArray) (b f i B : Nat) (x : LxS) (w : World) (a : Act) (wr : World) (Q0 : Exit → Act → World → Prop) (h : THead s b f i B x w) (hI : PInv s b i w a wr) (hexit : prefOf s i = none → ∀ a' w', a'.tmps.toList.length = 464 → a'.defers = [] → sl a' 0 = .pointer (some ⟨b, 0, none⟩) → sl a' 1 = .bool false → (∃ dr, w' = w.drewN dr) → Q0 (.exit 9) a' w')
    (after : Bool) (hret : ∀ p, prefOf s i = some p → ∀ a' w', a'.defers = [] → Step b f x B (tokStep x after (quotTok s (i + p.1) p.2.1 p.2.2)) w (.returned (.tuple #[])) w' → Q0 .ret a' w')
    (hpan : ∀ p, prefOf s i = some p → ∀ a' w' ch, a'.defers = [] → Step b f x B (tokStep x after (quotTok s (i + p.1) p.2.1 p.2.2)) w (.panicked ch) w' → Q0 (.panic ch) a' w') :
    Code.wp Tryz.prog (Code.loop tLoopP) Q0 a wr := by
  refine wp_loop (PInv s b i w) (fun a _ => 3 - (intOf (sl a 9)).toNat) hI ?_
  intro a1 w1 hI1
  obtain ⟨hlen, hd, h0, h1, n, fu, by_, rw_, h9, h7, h8, hf3, hr, dr, rfl⟩ := hI1
  have e : 3 - (intOf (sl a1 9)).toNat = 3 - n := by rw [h9]; show 3 - ((n : Int)).toNat = _; rw [Int.toNat_natCast]
  rw [e]
  obtain ⟨g, rfl, hg⟩ := act_lit464 a1 hlen hd
  rw [hg] at h0 h1 h7 h8 h9
  rw [h0, h1, h7, h8, h9]
  by_cases hlt : n < 3 ∧ i + n < s.size
  · obtain ⟨hn, hlt⟩ := hlt
    by_cases c34 : bt s (i + n) = 34
    · cases by_ <;> cases rw_
      · exact pre_ff_34 g s b f i B n fu dr x w Q0 h hf3 hr hlt hn c34 after hret hpan
      · exact pre_ft_34 g s b f i B n fu dr x w Q0 h hf3 hr hlt hn c34 after hret hpan
      · exact pre_tf_34 g s b f i B n fu dr x w Q0 h hf3 hr hlt hn c34 after hret hpan
      · exact pre_tt_34 g s b f i B n fu dr x w Q0 h hf3 hr hlt hn c34 after hret hpan
    · by_cases c39 : bt s (i + n) = 39
      · cases by_ <;> cases rw_
        · exact pre_ff_39 g s b f i B n fu dr x w Q0 h hf3 hr hlt hn c39 after hret hpan
        · exact pre_ft_39 g s b f i B n fu dr x w Q0 h hf3 hr hlt hn c39 after hret hpan
        · exact pre_tf_39 g s b f i B n fu dr x w Q0 h hf3 hr hlt hn c39 after hret hpan
        · exact pre_tt_39 g s b f i B n fu dr x w Q0 h hf3 hr hlt hn c39 after hret hpan
      · cases by_ <;> cases rw_
        · by_cases c66 : bt s (i + n) = 66
          · exact pre_ff_66 g s b f i B n fu dr x w Q0 h hf3 hr hlt hn c66
          by_cases c98 : bt s (i + n) = 98
          · exact pre_ff_98 g s b f i B n fu dr x w Q0 h hf3 hr hlt hn c98
          by_cases c82 : bt s (i + n) = 82
          · exact pre_ff_82 g s b f i B n fu dr x w Q0 h hf3 hr hlt hn c82
          by_cases c114 : bt s (i + n) = 114
          · exact pre_ff_114 g s b f i B n fu dr x w Q0 h hf3 hr hlt hn c114
          exact pre_ff_no g s b f i B n fu dr x w Q0 h hf3 hr hlt hn ⟨c66, c98⟩ ⟨c82, c114⟩ ⟨c34, c39⟩ hexit
        · by_cases c66 : bt s (i + n) = 66
          · exact pre_ft_66 g s b f i B n fu dr x w Q0 h hf3 hr hlt hn c66
          by_cases c98 : bt s (i + n) = 98
          · exact pre_ft_98 g s b f i B n fu dr x w Q0 h hf3 hr hlt hn c98
          exact pre_ft_no g s b f i B n fu dr x w Q0 h hf3 hr hlt hn ⟨c66, c98⟩ ⟨c34, c39⟩ hexit
        · by_cases c82 : bt s (i + n) = 82
          · exact pre_tf_82 g s b f i B n fu dr x w Q0 h hf3 hr hlt hn c82
          by_cases c114 : bt s (i + n) = 114
          · exact pre_tf_114 g s b f i B n fu dr x w Q0 h hf3 hr hlt hn c114
          exact pre_tf_no g s b f i B n fu dr x w Q0 h hf3 hr hlt hn ⟨c82, c114⟩ ⟨c34, c39⟩ hexit
        · exact pre_tt_no g s b f i B n fu dr x w Q0 h hf3 hr hlt hn ⟨c34, c39⟩ hexit
  · exact pre_end by_ rw_ g s b f i B n fu dr x w Q0 h hf3 hr hlt hexit
end Go.Proofs.YtmkkeacbabmaeaaGreatDoor
namespace Go.Proofs.YtmkkeacbabmaeaaGreatDoor
open Go.PlainAid

def segs : List UInt8 → List (List UInt8)
  | [] => [[]]
  | c :: t => if c = 32 then [] :: segs t else match segs t with | [] => [[c]] | h :: r => (c :: h) :: r
theorem segs_head : ∀ (l b : List UInt8), 32 ∉ l → segs (l ++ 32 :: b) = l :: segs b
  | [], b, _ => by simp [segs]
  | c :: l, b, h => by
    have h1 : ¬ c = 32 := fun e => h (by simp [e])
    have ih := segs_head l b (fun e => h (by simp [e]))
    simp only [List.cons_append, segs, if_neg h1, ih]
theorem segs_tail : ∀ (a t : List UInt8), ∃ p, segs (a ++ 32 :: t) = p ++ segs t
  | [], t => ⟨[[]], by simp [segs]⟩
  | c :: a, t => by
    obtain ⟨p, hp⟩ := segs_tail a t
    by_cases h : c = 32
    · exact ⟨[] :: p, by simp only [List.cons_append, segs, if_pos h, hp]⟩
    · cases p with
      | nil =>
        obtain ⟨q, hq⟩ : ∃ q, segs (a ++ 32 :: t) = q := ⟨_, rfl⟩
        simp only [List.nil_append] at hp
        exact absurd (congrArg List.length hp) (by
          have : ∀ a, (segs t).length < (segs (a ++ 32 :: t)).length := by
            intro a
            induction a with
            | nil => simp [segs]
            | cons d a ih =>
              simp only [List.cons_append, segs]
              split
              · simp; omega
              · split
                · rename_i hn; rw [hn] at ih; simp at ih
                · rename_i hn; rw [hn] at ih; simpa using ih
          have := this a
          omega)
      | cons x p => exact ⟨(c :: x) :: p, by simp only [List.cons_append, segs, if_neg h, hp]⟩
theorem segs_mem (a l b : List UInt8) (h : 32 ∉ l) : l ∈ segs (a ++ 32 :: (l ++ 32 :: b)) := by
  obtain ⟨p, hp⟩ := segs_tail a (l ++ 32 :: b)
  rw [hp, segs_head l b h]
  simp
theorem kw_segs : segs kwTree = [] :: (kwList ++ [[]]) := by decide +kernel

/-- The parts of a text: the first one stands ahead of the first blank, each other one behind a blank. -/
theorem segs_cut : ∀ (T : List UInt8), ∃ h r b, segs T = h :: r ∧ T = h ++ b ∧ (b = [] ∨ ∃ b', b = 32 :: b') ∧ 32 ∉ h ∧ ∀ l ∈ r, ∃ a b, T = a ++ 32 :: (l ++ b) ∧ (b = [] ∨ ∃ b', b = 32 :: b') ∧ 32 ∉ l
  | [] => ⟨[], [], [], rfl, rfl, Or.inl rfl, by simp, by intro l hl; cases hl⟩
  | c :: T => by
    obtain ⟨h, r, b, hs, hT, hb, hh, hr⟩ := segs_cut T
    by_cases hc : c = 32
    · refine ⟨[], h :: r, c :: T, by simp only [segs, if_pos hc, hs], by simp, Or.inr ⟨T, by rw [hc]⟩, by simp, ?_⟩
      intro l hl
      rcases List.mem_cons.1 hl with rfl | hl
      · exact ⟨[], b, by rw [hT, hc]; simp, hb, hh⟩
      · obtain ⟨a, b2, hT2, hb2, hl2⟩ := hr l hl
        exact ⟨c :: a, b2, by rw [hT2]; simp, hb2, hl2⟩
    · refine ⟨c :: h, r, b, by simp only [segs, if_neg hc, hs], by rw [hT]; simp, hb, ?_, ?_⟩
      · intro hm
        rcases List.mem_cons.1 hm with e | e
        · exact hc e.symm
        · exact hh e
      · intro l hl
        obtain ⟨a, b2, hT2, hb2, hl2⟩ := hr l hl
        exact ⟨c :: a, b2, by rw [hT2]; simp, hb2, hl2⟩
theorem kwTree_end : kwTree.getLast? = some 32 := by decide +kernel
theorem kwList_ne : ∀ l ∈ kwList, l ≠ [] := by decide +kernel
theorem kw_cut (l : List UInt8) (h : l ∈ kwList) : ∃ a b, kwTree = a ++ 32 :: (l ++ 32 :: b) ∧ 32 ∉ l := by
  obtain ⟨h0, r, b, hs, hT, hb, hh, hr⟩ := segs_cut kwTree
  rw [kw_segs] at hs
  obtain ⟨rfl, rfl⟩ := List.cons.inj hs
  obtain ⟨a, b2, hT2, hb2, hl2⟩ := hr l (by simp [h])
  rcases hb2 with rfl | ⟨b3, rfl⟩
  · have he := kwTree_end
    rw [hT2] at he
    have hne := kwList_ne l h
    simp only [List.append_nil] at he
    have h9 : (a ++ 32 :: l).getLast? = l.getLast? := by
      cases hq : l with
      | nil => exact absurd hq hne
      | cons x y => simp [List.getLast?_append, List.getLast?_cons]
    rw [h9] at he
    exact absurd (List.mem_of_getLast? he) hl2
  · exact ⟨a, b3, hT2, hl2⟩

theorem bt_list (T : List UInt8) (k : Nat) (h : k < T.length) : bt ⟨T.toArray⟩ k = ((T[k]'h).toNat : Int) := by
  have h2 : k < (ByteArray.mk T.toArray).size := by simpa [ByteArray.size] using h
  rw [← get_bt _ k h2]; rfl
theorem extract_list (T : List UInt8) (i j : Nat) : ((ByteArray.mk T.toArray).extract i j).toList = (T.drop i).take (j - i) := by
  rw [ByteArray.toList_eq, ByteArray.data_extract]; simp [List.extract_eq_take_drop]
end Go.Proofs.YtmkkeacbabmaeaaGreatDoor
namespace Go.Proofs.YtmkkeacbabmaeaaGreatDoor
open Go.RowKit Go.PlainAid

def zzB (s : ByteArray) : Bool := kwList.any (fun l => s.toList == l)
theorem zz_hit {s : ByteArray} {l : List UInt8} (h : (s.toList == l) = true) (hl : kwList.any (fun k => l == k) = true) : true = zzB s := by
  unfold zzB; rw [eq_of_beq h]; exact hl.symm

set_option maxHeartbeats 6400000 in
set_option maxRecDepth 100000 in
theorem ZzKeyword_c (s : ByteArray) (w : World) :
    Calls Tryz.prog 67 #[.string s] w fun e w' => e = .returned (.bool (zzB s)) ∧ w = w' := by
  go_enter Tryz.func67, Tryz.ntmps67
  go_wp2
  all_goals first
    | (rename_i h1 h2; rw [h1] at h2; cases h2; done)
    | (rename_i h; go_ret; exact ⟨ret_bool (zz_hit h rfl), rfl⟩)
    | (go_ret; refine ⟨ret_bool ?_, rfl⟩; unfold zzB kwList; simp only [List.any_cons, List.any_nil, *]; rfl)
end Go.Proofs.YtmkkeacbabmaeaaGreatDoor
namespace Go.Proofs.YtmkkeacbabmaeaaGreatDoor
open Go.PlainAid

theorem spaced_iff (s : ByteArray) : ∀ (m i : Nat), s.size - i = m → (spacedFrom s i = true ↔ ∃ j, i ≤ j ∧ j < s.size ∧ bt s j = 32)
  | 0, i, h => by
    rw [spacedFrom_end (by omega)]
    constructor
    · intro e; cases e
    · rintro ⟨j, h1, h2, _⟩; omega
  | m + 1, i, h => by
    by_cases hb : bt s i = 32
    · rw [spacedFrom_hit (by omega) hb]
      exact ⟨fun _ => ⟨i, Nat.le_refl _, by omega, hb⟩, fun _ => rfl⟩
    · rw [spacedFrom_go (by omega) hb, spaced_iff s m (i + 1) (by omega)]
      constructor
      · rintro ⟨j, h1, h2, h3⟩; exact ⟨j, by omega, h2, h3⟩
      · rintro ⟨j, h1, h2, h3⟩
        refine ⟨j, ?_, h2, h3⟩
        by_cases e : j = i
        · subst e; exact absurd h3 hb
        · omega
theorem kwFind_iff (K s : ByteArray) (h0 : 0 < s.size) : ∀ (m k : Nat), 601 - k = m → (kwFind K s k = true ↔ ∃ j, k ≤ j ∧ j + s.size + 1 < 601 ∧ kwHit K s j = true)
  | 0, k, h => by
    rw [kwFind_end (by omega)]
    constructor
    · intro e; cases e
    · rintro ⟨j, h1, h2, _⟩; omega
  | m + 1, k, h => by
    by_cases hk : k + s.size + 1 < 601
    · cases hh : kwHit K s k
      · rw [kwFind_go hk hh, kwFind_iff K s h0 m (k + 1) (by omega)]
        constructor
        · rintro ⟨j, h1, h2, h3⟩; exact ⟨j, by omega, h2, h3⟩
        · rintro ⟨j, h1, h2, h3⟩
          refine ⟨j, ?_, h2, h3⟩
          by_cases e : j = k
          · subst e; rw [hh] at h3; cases h3
          · omega
      · rw [kwFind_hit hk hh, decide_eq_true h0]
        exact ⟨fun _ => ⟨k, Nat.le_refl _, hk, hh⟩, fun _ => rfl⟩
    · rw [kwFind_end hk]
      constructor
      · intro e; cases e
      · rintro ⟨j, h1, h2, _⟩; omega
theorem kwFind_pos (K s : ByteArray) : ∀ (m k : Nat), 601 - k = m → kwFind K s k = true → 0 < s.size
  | 0, k, h, e => by rw [kwFind_end (by omega)] at e; cases e
  | m + 1, k, h, e => by
    by_cases hk : k + s.size + 1 < 601
    · cases hh : kwHit K s k
      · rw [kwFind_go hk hh] at e; exact kwFind_pos K s m (k + 1) (by omega) e
      · rw [kwFind_hit hk hh] at e; simpa using e
    · rw [kwFind_end hk] at e; cases e
theorem kwTree_len : kwTree.length = 601 := by decide +kernel

theorem kwB_zzB (s : ByteArray) : kwB s = zzB s := by
  obtain ⟨l, rfl⟩ : ∃ l : List UInt8, s = ⟨l.toArray⟩ := ⟨s.data.toList, by simp⟩
  have hsz : (ByteArray.mk l.toArray).size = l.length := by simp [ByteArray.size]
  have hl : (ByteArray.mk l.toArray).toList = l := by rw [ByteArray.toList_eq]
  have hsp : spacedFrom ⟨l.toArray⟩ 0 = true ↔ 32 ∈ l := by
    rw [spaced_iff _ _ 0 rfl, hsz]
    constructor
    · rintro ⟨j, _, h2, h3⟩
      rw [bt_list l j h2] at h3
      have : l[j] = 32 := by apply UInt8.toNat_inj.1; have : (32 : UInt8).toNat = 32 := rfl; omega
      rw [← this]; exact List.getElem_mem h2
    · intro h
      obtain ⟨j, hj, he⟩ := List.getElem_of_mem h
      exact ⟨j, Nat.zero_le _, hj, by rw [bt_list l j hj, he]; rfl⟩
  apply bool_ext
  unfold kwB zzB
  rw [hl, Bool.and_eq_true, Bool.not_eq_true', List.any_eq_true]
  constructor
  · rintro ⟨h1, h2⟩
    have hns : 32 ∉ l := fun h => by rw [hsp.2 h] at h1; cases h1
    have h0 := kwFind_pos _ _ _ 0 rfl h2
    rw [kwFind_iff _ _ h0 _ 0 rfl] at h2
    rw [hsz] at h0 h2
    obtain ⟨j, _, hj, hh⟩ := h2
    unfold kwHit at hh
    rw [hsz, Bool.and_eq_true, Bool.and_eq_true] at hh
    obtain ⟨⟨g1, g2⟩, g3⟩ := hh
    have g1 := of_decide_eq_true g1
    have g3 := of_decide_eq_true g3
    have g2 := eq_of_beq g2
    have hlen := kwTree_len
    unfold kwText at g1 g2 g3
    rw [bt_list _ _ (by omega)] at g1 g3
    rw [extract_list, hl] at g2
    have e1 : kwTree[j]'(by omega) = 32 := by apply UInt8.toNat_inj.1; have : (32 : UInt8).toNat = 32 := rfl; omega
    have e3 : kwTree[j + 1 + l.length]'(by omega) = 32 := by apply UInt8.toNat_inj.1; have : (32 : UInt8).toNat = 32 := rfl; omega
    have e2 : (kwTree.drop (j + 1)).take l.length = l := by
      have hq : j + 1 + l.length - (j + 1) = l.length := by omega
      rw [hq] at g2; exact g2
    have d3 : kwTree.drop (j + 1 + l.length) = 32 :: kwTree.drop (j + 1 + l.length + 1) := by rw [List.drop_eq_getElem_cons (by omega), e3]
    have d2 : kwTree.drop (j + 1) = l ++ 32 :: kwTree.drop (j + 1 + l.length + 1) := by rw [← d3, ← List.take_append_drop l.length (kwTree.drop (j + 1)), e2, List.drop_drop]
    have d1 : kwTree.drop j = 32 :: (l ++ 32 :: kwTree.drop (j + 1 + l.length + 1)) := by rw [List.drop_eq_getElem_cons (by omega), e1, d2]
    have hm := segs_mem (kwTree.take j) l (kwTree.drop (j + 1 + l.length + 1)) hns
    rw [← d1, List.take_append_drop, kw_segs] at hm
    have hne : l ≠ [] := by intro e; rw [e] at h0; cases h0
    simp [hne] at hm
    exact ⟨l, hm, by simp⟩
  · rintro ⟨x, hx, he⟩
    obtain rfl := eq_of_beq he
    obtain ⟨a, b, hT, hns⟩ := kw_cut l hx
    have hne := kwList_ne l hx
    have hpos : 0 < l.length := List.length_pos_iff.2 hne
    have hlen := kwTree_len
    rw [hT] at hlen
    simp at hlen
    refine ⟨?_, ?_⟩
    · cases h : spacedFrom ⟨l.toArray⟩ 0
      · rfl
      · exact absurd (hsp.1 h) hns
    · rw [kwFind_iff _ _ (by rw [hsz]; exact hpos) _ 0 rfl]
      refine ⟨a.length, Nat.zero_le _, by rw [hsz]; omega, ?_⟩
      unfold kwText
      refine kwHit_yes ?_ ?_ ?_
      · rw [bt_list _ _ (by rw [kwTree_len]; omega)]; simp [hT]
      · rw [hsz, extract_list, hl, hT]
        simp
      · rw [hsz, bt_list _ _ (by rw [kwTree_len]; omega)]
        have e : kwTree[a.length + 1 + l.length]? = some 32 := by
          rw [hT, List.getElem?_append_right (by omega), show a.length + 1 + l.length - a.length = l.length + 1 by omega]; simp
        rw [(List.getElem?_eq_some_iff.1 e).2]; rfl
end Go.Proofs.YtmkkeacbabmaeaaGreatDoor
namespace Go.Proofs.YtmkkeacbabmaeaaGreatDoor
open Go.RowKit Go.PlainAid

def byteCells (l : List UInt8) : List Value := l.map fun b => .int .u8 (b.toNat : Int)
theorem byteCells_len (l : List UInt8) : (byteCells l).length = l.length := by simp [byteCells]
theorem byteCells_app (l m : List UInt8) : byteCells (l ++ m) = byteCells l ++ byteCells m := by simp [byteCells]

/-- v is the slice of the bytes l at the head of a block from base on; what may be written over is no text. -/
def MarkRow (w : World) (base : Nat) (v : Value) (l : List UInt8) : Prop :=
  ∃ g cap C fz, v = .slice (some ⟨g, 0, none⟩) l.length cap ∧ base ≤ g ∧ w.heap[g]? = some (.cells C 5 fz) ∧ (fz = (0, 0) ∨ cap ≤ fz.1) ∧ l.length ≤ cap ∧ cap ≤ maxLen ∧ C.size = cap ∧ C.toList.take l.length = byteCells l

theorem MarkRow.kept {w w' : World} {base : Nat} {v : Value} {l : List UInt8} (h : MarkRow w base v l) (hb : Below w.heap.size w w') : MarkRow w' base v l := by
  obtain ⟨g, cap, C, fz, hv, hB, hg, r⟩ := h
  exact ⟨g, cap, C, fz, hv, hB, by rw [hb.block g (Array.getElem?_eq_some_iff.1 hg).1]; exact hg, r⟩
theorem MarkRow.lt {w : World} {base : Nat} {v : Value} {l : List UInt8} (h : MarkRow w base v l) : ∀ k, v.ownBlock = some k → base ≤ k ∧ k < w.heap.size := by
  obtain ⟨g, cap, C, fz, rfl, hB, hg, r⟩ := h
  intro k hk
  simp [Value.ownBlock] at hk
  subst hk
  exact ⟨hB, (Array.getElem?_eq_some_iff.1 hg).1⟩
theorem MarkRow.cells {w : World} {base : Nat} {l : List UInt8} {g n cap : Nat} (h : MarkRow w base (.slice (some ⟨g, 0, none⟩) n cap) l) (j : Nat) (hj : j < l.length) : w.cell? ((⟨g, 0, none⟩ : Addr).add j) = some (.int .u8 ((l[j]'hj).toNat : Int)) := by
  obtain ⟨g', cap', C, fz, hv, hB, hg, hf, hl, hm, hs, ht⟩ := h
  simp at hv
  obtain ⟨rfl, _, _⟩ := hv
  rw [add_off, cell_of_row w g j C 5 fz hg]
  have h1 : (C.toList.take l.length)[j]? = (byteCells l)[j]? := by rw [ht]
  rw [List.getElem?_take, if_pos hj] at h1
  simp [byteCells, hj] at h1
  simpa using h1

theorem markRow_new (w : World) (base : Nat) (s : ByteArray) (hb : base ≤ w.heap.size) (hs : s.size ≤ maxLen) : MarkRow (Lib.bytesWorld w 5 s) base (.slice (some ⟨w.heap.size, 0, none⟩) s.size (grownCap w s.size 0 5)) s.data.toList := by
  have hge := grownCap_ge w s.size 0 5
  have hN : (Lib.bytesCells w 5 s).size = grownCap w s.size 0 5 := by
    have : s.data.size = s.size := rfl
    simp [Lib.bytesCells]; omega
  have hl : s.data.toList.length = s.size := by simp
  refine ⟨w.heap.size, grownCap w s.size 0 5, Lib.bytesCells w 5 s, _, ?_, hb, Lib.bytesWorld_at_new w 5 s, Or.inr (by rw [hN]; exact Nat.le_refl _), ?_, grownCap_le_maxLen w s.size 0 _ hs, hN, ?_⟩
  · rw [hl]
  · rw [hl]; exact hge
  · rw [hl]
    simp only [Lib.bytesCells, Array.toList_append, byteCells, Array.toList_map]
    rw [List.take_append_of_le_length (by simp)]
    rw [List.take_of_length_le (by simp)]

theorem info_u8m : (Tryz.prog.info? 5).map (fun i => (i.zero, i.size, i.bytes)) = some (some (.int .u8 0), 1, 1) := by kernel_rfl

theorem run_append_mark (w : World) (ty base : Nat) (v : Value) (l : List UInt8) (x : UInt8) (h : MarkRow w base v l) (hB : base ≤ w.heap.size) (hlen : l.length + 1 ≤ 1099511627776) (ad : Addr) (c : Nat) (hx : w.cell? (ad.add 0) = some (.int .u8 (x.toNat : Int))) :
    ∃ v' w', (Builtin.append_ #[89, 89] ty #[v, .slice (some ad) 1 c]).run Tryz.prog w = .ok v' w' ∧ MarkRow w' base v' (l ++ [x]) ∧ w.grownBy w' v.ownBlock := by
  obtain ⟨i, hi, hz, hsz, hby⟩ := info_parts info_u8m
  have hu : Tryz.prog.underlying 89 = some (.slice 5) := Tryz.underlying89
  have hh := h
  obtain ⟨g, cap, C, fz, rfl, hg0, hg, hf, hl, hm, hs, ht⟩ := h
  have hnews : ∀ j u, [Value.int .u8 (x.toNat : Int)][j]? = some u → w.cell? (ad.add j) = some u := by
    intro j u hj
    cases j with
    | zero => simp at hj; rw [← hj]; exact hx
    | succ j => simp at hj
  by_cases hroom : l.length + 1 ≤ cap
  · have hlt : l.length < C.size := by omega
    have hfro : w.frozen? ⟨g, l.length, none⟩ = false := by
      simp only [World.frozen?, hg]
      rcases hf with rfl | hf
      · simp
      · simp; omega
    have hcell : w.cell? ⟨g, l.length, none⟩ = some C[l.length] := by simp [World.cell?, hg, hlt]
    have hst : (storeCells ⟨g, l.length, none⟩ [Value.int .u8 (x.toNat : Int)] 0).run Tryz.prog w = .ok () (w.setRow g (C.setIfInBounds l.length (.int .u8 (x.toNat : Int)))) := by
      have h0 : (⟨g, l.length, none⟩ : Addr).add 0 = ⟨g, l.length, none⟩ := by unfold Addr.add; split <;> simp_all
      have h1 : (store ((⟨g, l.length, none⟩ : Addr).add 0) (.int .u8 (x.toNat : Int))).run Tryz.prog w = .ok () (w.setRow g (C.setIfInBounds l.length (.int .u8 (x.toNat : Int)))) := by
        rw [h0, run_store Tryz.prog w _ (.int .u8 (x.toNat : Int)) _ rfl, hcell]
        simp [hfro, setCell_eq_setRow w g l.length C 5 fz _ hg]
      simp only [storeCells, Sem.run_bind, h1, Result.andThen_ok]
      rfl
    have hfc := run_firstCells_some (P := Tryz.prog) w i.size 1 ad 1 c [Value.int .u8 (x.toNat : Int)] (by rw [hsz]; rfl) hnews
    have hr : (Builtin.append_ #[89, 89] ty #[.slice (some ⟨g, 0, none⟩) l.length cap, .slice (some ad) 1 c]).run Tryz.prog w = .ok (.slice (some ⟨g, 0, none⟩) (l.length + 1) cap) (w.setRow g (C.setIfInBounds l.length (.int .u8 (x.toNat : Int)))) := by
      rw [hsz] at hfc
      simp [Builtin.append_, run_underlying hu, sizeOf, typeInfo, hi, hsz, Builtin.lenOf, hroom, hfc, Addr.add_lit, hst]
    refine ⟨_, _, hr, ⟨g, cap, _, fz, by simp, hg0, setRow_heap w g C _ 5 _ hg, hf, by simpa using hroom, hm, by simpa using hs, ?_⟩, ⟨rfl, rfl, rfl, by simp, fun k _ hk => setRow_other w g k _ (fun e => hk (by simp [Value.ownBlock, e]))⟩⟩
    rw [Array.toList_setIfInBounds, byteCells_app, ← ht]
    simp only [List.length_append, List.length_singleton]
    rw [List.take_succ_eq_append_getElem (by simpa using hlt)]
    simp [byteCells, List.take_set_of_le]
  · have holds : ∀ j u, (byteCells l)[j]? = some u → w.cell? ((⟨g, 0, none⟩ : Addr).add j) = some u := by
      intro j u hj
      have hj2 : j < l.length := by have := (List.getElem?_eq_some_iff.1 hj).1; rwa [byteCells_len] at this
      rw [hh.cells j hj2]
      simpa [byteCells, hj2] using hj
    have hge := grownCap_ge w (l.length + 1) cap 5
    have hcm2 := grownCap_le_maxLen w (l.length + 1) cap 5 (by unfold maxLen; omega)
    have hr := run_append_grow (P := Tryz.prog) w 89 ty 5 i (.int .u8 0) hu hi hz ⟨g, 0, none⟩ l.length cap (byteCells l) (by rw [hsz, byteCells_len]; omega) holds ad 1 c [.int .u8 (x.toNat : Int)] (by rw [hsz]; rfl) hnews (by omega) (by omega) (growslice_fits (by omega) (by rw [hby]; omega))
    refine ⟨_, _, hr, ⟨w.heap.size, _, _, (0, 0), by simp, hB, heap_alloc_new w.drew _, Or.inl rfl, by simpa using hge, hcm2, ?_, ?_⟩, ⟨rfl, rfl, rfl, by simp, fun k hk _ => heap_alloc_old w.drew _ hk⟩⟩
    · simp only [Array.size_append, List.size_toArray, size_zeroCells, byteCells_len, List.length_singleton]
      have : (Value.int .u8 0).cells.size = 1 := rfl
      rw [this]; omega
    · rw [byteCells_app]
      simp only [Array.toList_append, List.length_append, List.length_singleton]
      rw [List.take_append_of_le_length (by simp [byteCells_len])]
      rw [List.take_of_length_le (by simp [byteCells_len])]
      rfl
theorem wpList_append_mark {ops : Array Oper} {rest : List Oper} {o : Oper} {a : Act} {Q : Exit → Act → World → Prop} (w : World) (hgd : o.guard = none) (s x : Operand)
    (ho : o.op = .call { callee := .builtin .append, args := #[s, x], argTypes := #[89, 89] }) (base : Nat) (v : Value) (l : List UInt8) (b : UInt8) (hs : a.eval s = v) (h : MarkRow w base v l) (hB : base ≤ w.heap.size) (hlen : l.length + 1 ≤ 1099511627776) (ad : Addr) (c : Nat)
    (hx : a.eval x = .slice (some ad) 1 c) (hb : w.cell? (ad.add 0) = some (.int .u8 (b.toNat : Int)))
    (hk : ∀ v' w', MarkRow w' base v' (l ++ [b]) → w.grownBy w' v.ownBlock → wpList Tryz.prog ops Q rest (a.put o.dst v') w') : wpList Tryz.prog ops Q (o :: rest) a w := by
  obtain ⟨v', w', hr, hm, hg⟩ := run_append_mark w o.type base v l b h hB hlen ad c hb
  exact Lib.wpList_append_run w hgd s x _ _ ho v _ hs hx v' w' hr (hk v' w' hm hg)
end Go.Proofs.YtmkkeacbabmaeaaGreatDoor
namespace Go.Proofs.YtmkkeacbabmaeaaGreatDoor
open Go.RowKit Go.PlainAid

theorem upTake (L : List UInt8) (k : Nat) (h : k < L.length) : upperL (L.take (k + 1)) = upperL (L.take k) ++ [upB (L[k]'h)] := by
  rw [List.take_succ_eq_append_getElem h]; unfold upperL; rw [List.map_append]; rfl
theorem upperL_len (L : List UInt8) : (upperL L).length = L.length := by simp [upperL]

theorem cell_new1 (w : World) (u : Value) (T : TypeId) : (w.alloc (.cells #[u] T)).cell? ((⟨w.heap.size, 0, none⟩ : Addr).add 0) = some u := by
  rw [add_off]; have h := heap_alloc_new w (.cells #[u] T); simp only [World.cell?, h]; rfl
theorem extract_toList (s : ByteArray) (k : Nat) : (s.extract 0 k).data.toList = s.data.toList.take k := by
  rw [ByteArray.data_extract]; simp

set_option maxHeartbeats 1600000 in
set_option maxRecDepth 20000 in
theorem ToUpper_c (s : ByteArray) (w : World) (hs : s.size ≤ 274877906944) :
    Calls Tryz.prog 66 #[.string s] w fun e w' => e = .returned (.string ⟨(upperL s.data.toList).toArray⟩) ∧ Below w.heap.size w w' := by
  have hb := get_bt s
  obtain ⟨L, hL⟩ : ∃ L, s.data.toList = L := ⟨_, rfl⟩
  have hLs : Hid (L.length = s.size) := by show _ = _; rw [← hL]; simp
  have hby : Hid (∀ k (h : k < L.length), bt s k = ((L[k]'h).toNat : Int)) := by
    intro k h
    subst hL
    have h2 : k < s.size := by simpa using h
    rw [← hb k h2]
    rfl
  have hLd : Hid (s.data.toList = L) := hL
  rw [hL]
  clear hL
  have hnil : ∀ (W : World) (a : Option Addr) (l c : Nat), (binOp .eql 89 (.slice a l c) (.slice none 0 0)).run Tryz.prog W = .ok (.bool a.isNone) W := fun W a l c => Go.run_eql_slice_nil W _ _ a l c Tryz.underlying89
  have hnnil : ∀ (W : World) (a : Option Addr) (l c : Nat), (binOp .neq 89 (.slice a l c) (.slice none 0 0)).run Tryz.prog W = .ok (.bool (!a.isNone)) W := fun W a l c => Go.run_neq_slice_nil W _ _ a l c Tryz.underlying89
  go_enter Tryz.func66, Tryz.ntmps66
  go_wp2
  go_loopw [3, 4] (fun v3 v4 wr => ∃ k : Nat, k ≤ s.size ∧ v4 = .int .i64 k ∧ Below w.heap.size w wr ∧ ((v3 = .slice none 0 0 ∧ Hid (upperL (L.take k) = L.take k)) ∨ MarkRow wr w.heap.size v3 (upperL (L.take k)))) (fun _ v4 _ => s.size - (intOf v4).toNat)
  case atStart => exact ⟨0, by omega, rfl, Below.refl _ _, Or.inl ⟨rfl, by show _ = _; simp [upperL]⟩⟩
  case round =>
    obtain ⟨k, hk, rfl, hbw, hv⟩ := hrel
    by_cases hlt : k < s.size
    · have hkl : k < L.length := by rw [hLs.out]; exact hlt
      have hx := hby.out k hkl
      have htk := Lib.hid (upTake L k hkl)
      obtain ⟨x, hxe⟩ : ∃ x, L[k]'hkl = x := ⟨_, rfl⟩
      rw [hxe] at hx htk
      have Hx := Lib.hid hxe
      clear hxe
      have hc0 : 0 ≤ bt s k := bt_nonneg s k
      have hc1 : bt s k ≤ 255 := bt_le s k
      have Hxc : Hid (bt s k = (x.toNat : Int)) := hx
      clear hx
      by_cases hup : 97 ≤ bt s k ∧ bt s k ≤ 122
      · obtain ⟨hu1, hu2⟩ := hup
        have huv : Hid (((upB x).toNat : Int) = bt s k - 32) := by show _ = _; rw [Hxc.out]; exact upB_yes (by rw [← Hxc.out]; exact hu1) (by rw [← Hxc.out]; exact hu2)
        rcases hv with ⟨rfl, hid⟩ | hm
        · have hek : (s.extract 0 k).size = k := by rw [ByteArray.size_extract]; omega
          have hcv := run_bytes_of wr (s.extract 0 k)
          have hmk := markRow_new wr w.heap.size (s.extract 0 k) hbw.size (by rw [hek]; unfold maxLen; omega)
          have hbl := below_bytesWorld wr (s.extract 0 k)
          rw [hek] at hcv hmk
          rw [extract_toList, hLd.out, ← hid.out] at hmk
          obtain ⟨W0, hW0⟩ : ∃ W0, Lib.bytesWorld wr 5 (s.extract 0 k) = W0 := ⟨_, rfl⟩
          rw [hW0] at hcv hmk hbl
          obtain ⟨cap, hcap⟩ : ∃ cap, grownCap wr k 0 5 = cap := ⟨_, rfl⟩
          rw [hcap] at hcv hmk
          clear hek hW0 hcap hid
          have hlen : (upperL (L.take k)).length + 1 ≤ 1099511627776 := by rw [upperL_len, List.length_take]; omega
          have hbs := hbw.size
          have hbs2 := hbl.size
          have HB := Lib.hid (hbw.trans (hbl.mono hbs))
          have HM := Lib.hid hmk
          clear hmk hbl hbw
          go_wp2_with (at_builtin; refine wpList_append_mark _ rfl (.tmp 27) (.tmp 31) rfl w.heap.size _ (upperL (L.take k)) (upB x) rfl (HM.out.kept ((Below.refl _ _).alloc (Nat.le_refl _) _)) (by simp; omega) hlen ⟨W0.heap.size, 0, none⟩ 1 rfl (by rw [huv.out, cell_new1]; congr 2; omega) ?_; intro v' w' hm1 hgr)
          all_goals
            go_roundw
            case rel => exact ⟨k + 1, by omega, by go_num, (HB.out.alloc (by omega) _).grown hgr (by simp; omega) (fun k2 h2 => (HM.out.lt k2 h2).1), Or.inr (by rw [htk.out]; exact hm1)⟩
            case measure => simp [intOf]; omega
        · obtain ⟨g, cap, C, fz, rfl, hmr⟩ := id hm
          clear hmr
          have hn : (upperL (L.take k)).length = k := by rw [upperL_len, List.length_take, hLs.out]; omega
          rw [hn] at hm
          rw [hn]
          have hlen : (upperL (L.take k)).length + 1 ≤ 1099511627776 := by rw [hn]; omega
          clear hn
          have hbs := hbw.size
          have HB := Lib.hid hbw
          have HM := Lib.hid hm
          clear hm hbw
          go_wp2_with (at_builtin; refine wpList_append_mark _ rfl _ _ rfl w.heap.size _ (upperL (L.take k)) (upB x) rfl (HM.out.kept ((Below.refl _ _).alloc (Nat.le_refl _) _)) (by simp; omega) hlen ⟨wr.heap.size, 0, none⟩ 1 rfl (by rw [huv.out, cell_new1]; congr 2; omega) ?_; intro v' w' hm1 hgr)
          all_goals
            go_roundw
            case rel => exact ⟨k + 1, by omega, by go_num, (HB.out.alloc hbs _).grown hgr (by simp; omega) (fun k2 h2 => (HM.out.lt k2 h2).1), Or.inr (by rw [htk.out]; exact hm1)⟩
            case measure => simp [intOf]; omega
      · have huv : Hid (upB x = x) := by show _ = _; exact upB_no (by rw [← Hxc.out]; exact hup)
        rcases hv with ⟨rfl, hid⟩ | hm
        · go_wp2
          all_goals
            go_roundw
            case rel => exact ⟨k + 1, by omega, by go_num, hbw, Or.inl ⟨rfl, by show _ = _; rw [htk.out, hid.out, huv.out, ← Hx.out, List.take_succ_eq_append_getElem]⟩⟩
            case measure => simp [intOf]; omega
        · obtain ⟨g, cap, C, fz, rfl, hmr⟩ := id hm
          clear hmr
          have hn : (upperL (L.take k)).length = k := by rw [upperL_len, List.length_take, hLs.out]; omega
          rw [hn] at hm
          rw [hn]
          have hlen : (upperL (L.take k)).length + 1 ≤ 1099511627776 := by rw [hn]; omega
          clear hn
          have hbs := hbw.size
          have HB := Lib.hid hbw
          have HM := Lib.hid hm
          clear hm hbw
          go_wp2_with (at_builtin; refine wpList_append_mark _ rfl _ _ rfl w.heap.size _ (upperL (L.take k)) (upB x) rfl (HM.out.kept ((Below.refl _ _).alloc (Nat.le_refl _) _)) (by simp; omega) hlen ⟨wr.heap.size, 0, none⟩ 1 rfl (by rw [huv.out, cell_new1, Hxc.out]) ?_; intro v' w' hm1 hgr)
          all_goals
            go_roundw
            case rel => exact ⟨k + 1, by omega, by go_num, (HB.out.alloc hbs _).grown hgr (by simp; omega) (fun k2 h2 => (HM.out.lt k2 h2).1), Or.inr (by rw [htk.out]; exact hm1)⟩
            case measure => simp [intOf]; omega
    · have hke : k = s.size := by omega
      rcases hv with ⟨rfl, hid⟩ | hm
      · go_wp2
        go_ret
        refine ⟨?_, hbw⟩
        have := hid.out
        rw [List.take_of_length_le (by rw [hLs.out]; omega)] at this
        rw [this, ← hLd.out]
        have e : (⟨s.data.toList.toArray⟩ : ByteArray) = s := by simp
        rw [e]
        rfl
      · obtain ⟨g, cap, C, fz, rfl, hmr⟩ := id hm
        clear hmr
        have hLk : L.take k = L := List.take_of_length_le (by rw [hLs.out]; omega)
        rw [hLk] at hm
        rw [hLk]
        have hcv : (convert 89 9 (.slice (some ⟨g, 0, none⟩) (upperL L).length cap)).run Tryz.prog wr = .ok (.string ⟨(upperL L).toArray⟩) wr :=
          run_convert_bytes_back wr 89 9 5 ⟨g, 0, none⟩ cap (upperL L) Tryz.underlying89 Tryz.underlying5 Tryz.underlying9 (fun j hj => hm.cells j hj)
        clear hm hLk
        go_wp2
        go_ret
        exact ⟨rfl, hbw⟩
end Go.Proofs.YtmkkeacbabmaeaaGreatDoor
namespace Go.Proofs.YtmkkeacbabmaeaaGreatDoor
open Go.RowKit Go.PlainAid

theorem word_of {s : ByteArray} {i : Nat} {after : Bool} (hi : i < s.size) (hl : letterB (bt s i) = true) (hp : prefOf s i = none) : tokOf s i false after = some (wordTok s i) := by
  have hl2 : (97 ≤ bt s i ∧ bt s i ≤ 122) ∨ (65 ≤ bt s i ∧ bt s i ≤ 90) ∨ bt s i = 95 := (letterB_iff _).1 hl
  unfold tokOf
  rw [if_neg (by omega), if_neg (fun k => by cases k.1), if_neg (by omega), if_neg, if_neg (fun k => by have := k.1; omega), hp]
  · simp only []
    rw [if_pos hl]
  · rintro (k | k)
    · have := (digitB_iff _).1 k
      omega
    · have := k.1
      omega
theorem quot_of {s : ByteArray} {i : Nat} {after : Bool} {p : Nat × Bool × Bool} (hi : i < s.size) (hp : prefOf s i = some p) : tokOf s i false after = quotTok s (i + p.1) p.2.1 p.2.2 := by
  have h := prefOf_first hp
  unfold tokOf
  rw [if_neg (by omega), if_neg (fun k => by cases k.1), if_neg (by omega), if_neg, if_neg (fun k => by have := k.1; omega), hp]
  rintro (k | k)
  · have := (digitB_iff _).1 k
    omega
  · have := k.1
    omega
theorem zz_nodot {u : ByteArray} (h : zzB u = true) : isDot u = false := by
  cases hd : isDot u with
  | false => rfl
  | true =>
    have e : u.data.toList = [46] := by unfold isDot at hd; exact eq_of_beq hd
    have e2 : u.toList = [46] := by rw [ByteArray.toList_eq]; exact e
    unfold zzB at h
    rw [e2] at h
    exact absurd h (by decide)
set_option maxHeartbeats 8000000 in
set_option maxRecDepth 1000000 in
theorem tok_letter (s : ByteArray) (b f i B : Nat) (x : LxS) (w : World) (h : THead s b f i B x w) (hi : i < s.size) (hl : letterB (bt s i) = true) (hp : bt s i ≠ 66 ∧ bt s i ≠ 98 ∧ bt s i ≠ 82 ∧ bt s i ≠ 114) :
    Calls Tryz.prog 38 #[.pointer (some ⟨b, 0, none⟩), .bool false] w (Step b f x B (tokStep x (dottedB x.last) (tokOf s i false (dottedB x.last))) w) := by
  have hs := h.env.small
  have hl2 : (97 ≤ bt s i ∧ bt s i ≤ 122) ∨ (65 ≤ bt s i ∧ bt s i ≤ 90) ∨ bt s i = 95 := (letterB_iff _).1 hl
  have hpn : prefOf s i = none := by
    cases e : prefOf s i with
    | none => rfl
    | some p => have := prefOf_first e; omega
  have Hspec : Hid (tokOf s i false (dottedB x.last) = some (wordTok s i)) := word_of hi hl hpn
  obtain ⟨c, hc⟩ : ∃ c, bt s i = c := ⟨_, rfl⟩
  rw [hc] at hl hl2 hp
  have Hlet := Lib.hid hl
  have e40 : (c == 40) = false := by simp; omega
  have e41 : (c == 41) = false := by simp; omega
  have e123 : (c == 123) = false := by simp; omega
  have e125 : (c == 125) = false := by simp; omega
  have e59 : (c == 59) = false := by simp; omega
  have e44 : (c == 44) = false := by simp; omega
  have e91 : (c == 91) = false := by simp; omega
  have e93 : (c == 93) = false := by simp; omega
  have e126 : (c == 126) = false := by simp; omega
  have e42 : (c == 42) = false := by simp; omega
  have e47 : (c == 47) = false := by simp; omega
  have e38 : (c == 38) = false := by simp; omega
  have e94 : (c == 94) = false := by simp; omega
  have e37 : (c == 37) = false := by simp; omega
  have e58 : (c == 58) = false := by simp; omega
  have e63 : (c == 63) = false := by simp; omega
  have e92 : (c == 92) = false := by simp; omega
  have e36 : (c == 36) = false := by simp; omega
  have e46 : (c == 46) = false := by simp; omega
  have e60 : (c == 60) = false := by simp; omega
  have e62 : (c == 62) = false := by simp; omega
  have e43 : (c == 43) = false := by simp; omega
  have e45 : (c == 45) = false := by simp; omega
  have e61 : (c == 61) = false := by simp; omega
  have e124 : (c == 124) = false := by simp; omega
  have e33 : (c == 33) = false := by simp; omega
  have e64 : (c == 64) = false := by simp; omega
  have e96 : (c == 96) = false := by simp; omega
  have e48 : (c == 48) = false := by simp; omega
  have e49 : (c == 49) = false := by simp; omega
  have e50 : (c == 50) = false := by simp; omega
  have e51 : (c == 51) = false := by simp; omega
  have e52 : (c == 52) = false := by simp; omega
  have e53 : (c == 53) = false := by simp; omega
  have e54 : (c == 54) = false := by simp; omega
  have e55 : (c == 55) = false := by simp; omega
  have e56 : (c == 56) = false := by simp; omega
  have e57 : (c == 57) = false := by simp; omega
  have e66 : (c == 66) = false := by simp; omega
  have e98 : (c == 98) = false := by simp; omega
  have e82 : (c == 82) = false := by simp; omega
  have e114 : (c == 114) = false := by simp; omega
  have e34 : (c == 34) = false := by simp; omega
  have e39 : (c == 39) = false := by simp; omega
  have Hc := Lib.hid hc
  clear hc hl hl2 hp hpn
  have H := Lib.hid h
  clear h
  go_enter Tryz.func38, Tryz.ntmps38
  go_wp2_with fail
  refine H.out.eof0.mono ?_
  rintro e w' ⟨rfl, n1, rfl⟩
  rw [decide_eq_false (show ¬ s.size ≤ i by omega)]
  go_wp2_with fail
  refine (H.out.peek n1 0 _ rfl hi).mono ?_
  rintro e w' ⟨rfl, n2, rfl⟩
  rw [show bt s (i + 0) = c from Hc.out]
  go_wp2_with fail
  refine (H.out.peek n2 0 _ rfl hi).mono ?_
  rintro e w' ⟨rfl, n3, rfl⟩
  rw [show bt s (i + 0) = c from Hc.out]
  go_wp2_with fail
  refine (IdStart_c _ _).mono ?_
  rintro e w' ⟨rfl, hw⟩
  subst hw
  rw [Hlet.out]
  go_wp2_with fail
  refine scanW_c s b f i B 0 x w _ _ _ H.out ⟨rfl, rfl, rfl, rfl, 0, rfl, by omega, by omega, rfl, _, rfl⟩ ?_
  intro k hk0 hk hle a' w' hlen hdf h0 h1 hC hdr
  obtain ⟨dr, rfl⟩ := hdr
  obtain ⟨g2, rfl, hg⟩ := act_lit464 a' hlen hdf
  rw [hg] at h0 h1 hC
  rw [h0, h1, hC]
  clear hlen hdf h0 h1 hC hg
  have Hk := Lib.hid hk
  clear hk
  go_wp2_with fail
  obtain ⟨t, ht⟩ : ∃ t, s.extract i (partsEnd s i) = t := ⟨_, rfl⟩
  have htz : t.size ≤ 4096 := by rw [← ht, ByteArray.size_extract]; omega
  refine (H.out.slice dr 0 k _ _ rfl rfl (by omega) (by omega) (by omega)).mono ?_
  rintro e w' ⟨rfl, n4, rfl⟩
  rw [show s.extract (i + 0) (i + k) = t by rw [Hk.out]; exact ht]
  go_wp2_with fail
  refine (H.out.skipN n4 k _ rfl (by omega)).mono ?_
  rintro e w' ⟨rfl, hw⟩
  rw [Hk.out] at hw
  have Hsp := Hspec.out
  unfold wordTok at Hsp
  simp only [ht] at Hsp
  have hx2 := ((H.out.dn n4).lx).setPos ((partsEnd s i : Nat) : Int)
  have hO2 := ((Only.refl b w).dn n4).setCell 9 (.int .i64 ((partsEnd s i : Nat) : Int))
  obtain ⟨W, hW⟩ : ∃ W, (w.drewN n4).setCell ⟨b, 9, none⟩ (.int .i64 ((partsEnd s i : Nat) : Int)) = W := ⟨_, rfl⟩
  rw [show i + 0 = i from rfl] at hw
  rw [hW] at hx2 hO2 hw
  replace hw := hw.symm
  subst hw
  clear hW hk0 hle
  have Hsp2 := Lib.hid Hsp
  have HX2 := Lib.hid hx2
  have HO2 := Lib.hid hO2
  clear Hsp hx2 hO2 Hspec ht
  go_wp2_with fail
  refine (ToUpper_c t W (by omega)).mono ?_
  rintro e W3 ⟨rfl, hbel⟩
  have hx3 := HX2.out.below hbel
  have hO3 := HO2.out.trans (Only.of_below (b := b) hbel)
  have HX3 := Lib.hid hx3
  have HO3 := Lib.hid hO3
  have c1 := hx3.cell1
  have f1 := hx3.free 1
  have c5 := hx3.cell5
  have f5 := hx3.free 5
  clear hx3 hO3 hbel
  obtain ⟨u, hu⟩ : ∃ u, upperS t = u := ⟨_, rfl⟩
  rw [show ({ data := (upperL t.data.toList).toArray } : ByteArray) = u from hu]
  go_wp2_with fail
  refine (ZzKeyword_c u W3).mono ?_
  rintro e w' ⟨rfl, hw⟩
  subst hw
  have Hsp3 := Hsp2.out
  rw [hu, kwB_zzB] at Hsp3
  clear Hsp2 hu
  cases hz : zzB u with
  | true =>
    rw [hz, if_pos rfl] at Hsp3
    have Hsp4 := Lib.hid Hsp3
    have Hd := Lib.hid (zz_nodot hz)
    clear Hsp3 hz
    go_wp2_with fail
    refine bodyPost_ret (results_none rfl _ _ _) rfl ?_
    exact step_tok Hsp4.out (by simp only [tokNext, Hd.out]; rfl) (HX3.out.setKind _) (HO3.out.setCell 1 _)
  | false =>
    rw [hz, if_neg (by simp)] at Hsp3
    have Hsp4 := Lib.hid Hsp3
    clear Hsp3 hz
    go_wp2_with fail
    refine bodyPost_ret (results_none rfl _ _ _) rfl ?_
    exact step_tok Hsp4.out rfl ((HX3.out.setKind _).setText _) ((HO3.out.setCell 1 _).setCell 5 _)
end Go.Proofs.YtmkkeacbabmaeaaGreatDoor
namespace Go.Proofs.YtmkkeacbabmaeaaGreatDoor
open Go.RowKit Go.PlainAid

set_option maxHeartbeats 8000000 in
set_option maxRecDepth 1000000 in
theorem tok_pre66 (s : ByteArray) (b f i B : Nat) (x : LxS) (w : World) (h : THead s b f i B x w) (hi : i < s.size) (hc : bt s i = 66) :
    Calls Tryz.prog 38 #[.pointer (some ⟨b, 0, none⟩), .bool false] w (Step b f x B (tokStep x (dottedB x.last) (tokOf s i false (dottedB x.last))) w) := by
  have hs := h.env.small
  have Hlet : Hid (letterB 66 = true) := by show _ = _; decide
  have Hword : Hid (prefOf s i = none → tokOf s i false (dottedB x.last) = some (wordTok s i)) := fun hp => word_of hi (by rw [hc]; decide) hp
  have Hquot : Hid (∀ p, prefOf s i = some p → tokOf s i false (dottedB x.last) = quotTok s (i + p.1) p.2.1 p.2.2) := fun p hp => quot_of hi hp
  have Hc := Lib.hid hc
  clear hc
  have H := Lib.hid h
  clear h
  go_enter Tryz.func38, Tryz.ntmps38
  go_wp2_with fail
  refine H.out.eof0.mono ?_
  rintro e w' ⟨rfl, n1, rfl⟩
  rw [decide_eq_false (show ¬ s.size ≤ i by omega)]
  go_wp2_with fail
  refine (H.out.peek n1 0 _ rfl hi).mono ?_
  rintro e w' ⟨rfl, n2, rfl⟩
  rw [show bt s (i + 0) = 66 from Hc.out]
  go_wp2_with fail
  go_step3
  go_wp2_with fail
  go_step3
  go_wp2_with fail
  refine loopP_c s b f i B x w _ _ _ H.out ⟨rfl, rfl, rfl, rfl, 0, 3, false, false, rfl, rfl, rfl, rfl, rfl, _, rfl⟩ ?_ (dottedB x.last) ?_ ?_
  · intro hno a' w' hlen hdf h0 h1 hdr
    have Hspec := Lib.hid (Hword.out hno)
    obtain ⟨dr0, rfl⟩ := hdr
    obtain ⟨g1, rfl, hg⟩ := act_lit464 a' hlen hdf
    rw [hg] at h0 h1
    rw [h0, h1]
    clear hlen hdf h0 h1 hg hno Hword Hquot
    go_wp2_with fail
    rw [Exit.noGoto_normal]
    go_wp2_with fail
    refine (H.out.peek dr0 0 _ rfl hi).mono ?_
    rintro e w' ⟨rfl, n3, rfl⟩
    rw [show bt s (i + 0) = 66 from Hc.out]
    go_wp2_with fail
    refine (IdStart_c _ _).mono ?_
    rintro e w' ⟨rfl, hw⟩
    subst hw
    rw [Hlet.out]
    go_wp2_with fail
    refine scanW_c s b f i B 0 x w _ _ _ H.out ⟨rfl, rfl, rfl, rfl, 0, rfl, by omega, by omega, rfl, _, rfl⟩ ?_
    intro k hk0 hk hle a' w' hlen hdf h0 h1 hC hdr
    obtain ⟨dr, rfl⟩ := hdr
    obtain ⟨g2, rfl, hg⟩ := act_lit464 a' hlen hdf
    rw [hg] at h0 h1 hC
    rw [h0, h1, hC]
    clear hlen hdf h0 h1 hC hg
    have Hk := Lib.hid hk
    clear hk
    go_wp2_with fail
    obtain ⟨t, ht⟩ : ∃ t, s.extract i (partsEnd s i) = t := ⟨_, rfl⟩
    have htz : t.size ≤ 4096 := by rw [← ht, ByteArray.size_extract]; omega
    refine (H.out.slice dr 0 k _ _ rfl rfl (by omega) (by omega) (by omega)).mono ?_
    rintro e w' ⟨rfl, n4, rfl⟩
    rw [show s.extract (i + 0) (i + k) = t by rw [Hk.out]; exact ht]
    go_wp2_with fail
    refine (H.out.skipN n4 k _ rfl (by omega)).mono ?_
    rintro e w' ⟨rfl, hw⟩
    rw [Hk.out] at hw
    have Hsp := Hspec.out
    unfold wordTok at Hsp
    simp only [ht] at Hsp
    have hx2 := ((H.out.dn n4).lx).setPos ((partsEnd s i : Nat) : Int)
    have hO2 := ((Only.refl b w).dn n4).setCell 9 (.int .i64 ((partsEnd s i : Nat) : Int))
    obtain ⟨W, hW⟩ : ∃ W, (w.drewN n4).setCell ⟨b, 9, none⟩ (.int .i64 ((partsEnd s i : Nat) : Int)) = W := ⟨_, rfl⟩
    rw [show i + 0 = i from rfl] at hw
    rw [hW] at hx2 hO2 hw
    replace hw := hw.symm
    subst hw
    clear hW hk0 hle
    have Hsp2 := Lib.hid Hsp
    have HX2 := Lib.hid hx2
    have HO2 := Lib.hid hO2
    clear Hsp hx2 hO2 Hspec ht
    go_wp2_with fail
    refine (ToUpper_c t W (by omega)).mono ?_
    rintro e W3 ⟨rfl, hbel⟩
    have hx3 := HX2.out.below hbel
    have hO3 := HO2.out.trans (Only.of_below (b := b) hbel)
    have HX3 := Lib.hid hx3
    have HO3 := Lib.hid hO3
    have c1 := hx3.cell1
    have f1 := hx3.free 1
    have c5 := hx3.cell5
    have f5 := hx3.free 5
    clear hx3 hO3 hbel
    obtain ⟨u, hu⟩ : ∃ u, upperS t = u := ⟨_, rfl⟩
    rw [show ({ data := (upperL t.data.toList).toArray } : ByteArray) = u from hu]
    go_wp2_with fail
    refine (ZzKeyword_c u W3).mono ?_
    rintro e w' ⟨rfl, hw⟩
    subst hw
    have Hsp3 := Hsp2.out
    rw [hu, kwB_zzB] at Hsp3
    clear Hsp2 hu
    cases hz : zzB u with
    | true =>
      rw [hz, if_pos rfl] at Hsp3
      have Hsp4 := Lib.hid Hsp3
      have Hd := Lib.hid (zz_nodot hz)
      clear Hsp3 hz
      go_wp2_with fail
      refine bodyPost_ret (results_none rfl _ _ _) rfl ?_
      exact step_tok Hsp4.out (by simp only [tokNext, Hd.out]; rfl) (HX3.out.setKind _) (HO3.out.setCell 1 _)
    | false =>
      rw [hz, if_neg (by simp)] at Hsp3
      have Hsp4 := Lib.hid Hsp3
      clear Hsp3 hz
      go_wp2_with fail
      refine bodyPost_ret (results_none rfl _ _ _) rfl ?_
      exact step_tok Hsp4.out rfl ((HX3.out.setKind _).setText _) ((HO3.out.setCell 1 _).setCell 5 _)
  · intro p hp a' w' hdf hst
    rw [Hquot.out p hp]
    exact ⟨hdf, .tuple #[], results_none rfl _ _ _, hst⟩
  · intro p hp a' w' ch hdf hst
    rw [Hquot.out p hp]
    exact ⟨hdf, hst⟩
set_option maxHeartbeats 8000000 in
set_option maxRecDepth 1000000 in
theorem tok_pre98 (s : ByteArray) (b f i B : Nat) (x : LxS) (w : World) (h : THead s b f i B x w) (hi : i < s.size) (hc : bt s i = 98) :
    Calls Tryz.prog 38 #[.pointer (some ⟨b, 0, none⟩), .bool false] w (Step b f x B (tokStep x (dottedB x.last) (tokOf s i false (dottedB x.last))) w) := by
  have hs := h.env.small
  have Hlet : Hid (letterB 98 = true) := by show _ = _; decide
  have Hword : Hid (prefOf s i = none → tokOf s i false (dottedB x.last) = some (wordTok s i)) := fun hp => word_of hi (by rw [hc]; decide) hp
  have Hquot : Hid (∀ p, prefOf s i = some p → tokOf s i false (dottedB x.last) = quotTok s (i + p.1) p.2.1 p.2.2) := fun p hp => quot_of hi hp
  have Hc := Lib.hid hc
  clear hc
  have H := Lib.hid h
  clear h
  go_enter Tryz.func38, Tryz.ntmps38
  go_wp2_with fail
  refine H.out.eof0.mono ?_
  rintro e w' ⟨rfl, n1, rfl⟩
  rw [decide_eq_false (show ¬ s.size ≤ i by omega)]
  go_wp2_with fail
  refine (H.out.peek n1 0 _ rfl hi).mono ?_
  rintro e w' ⟨rfl, n2, rfl⟩
  rw [show bt s (i + 0) = 98 from Hc.out]
  go_wp2_with fail
  go_step3
  go_wp2_with fail
  go_step3
  go_wp2_with fail
  refine loopP_c s b f i B x w _ _ _ H.out ⟨rfl, rfl, rfl, rfl, 0, 3, false, false, rfl, rfl, rfl, rfl, rfl, _, rfl⟩ ?_ (dottedB x.last) ?_ ?_
  · intro hno a' w' hlen hdf h0 h1 hdr
    have Hspec := Lib.hid (Hword.out hno)
    obtain ⟨dr0, rfl⟩ := hdr
    obtain ⟨g1, rfl, hg⟩ := act_lit464 a' hlen hdf
    rw [hg] at h0 h1
    rw [h0, h1]
    clear hlen hdf h0 h1 hg hno Hword Hquot
    go_wp2_with fail
    rw [Exit.noGoto_normal]
    go_wp2_with fail
    refine (H.out.peek dr0 0 _ rfl hi).mono ?_
    rintro e w' ⟨rfl, n3, rfl⟩
    rw [show bt s (i + 0) = 98 from Hc.out]
    go_wp2_with fail
    refine (IdStart_c _ _).mono ?_
    rintro e w' ⟨rfl, hw⟩
    subst hw
    rw [Hlet.out]
    go_wp2_with fail
    refine scanW_c s b f i B 0 x w _ _ _ H.out ⟨rfl, rfl, rfl, rfl, 0, rfl, by omega, by omega, rfl, _, rfl⟩ ?_
    intro k hk0 hk hle a' w' hlen hdf h0 h1 hC hdr
    obtain ⟨dr, rfl⟩ := hdr
    obtain ⟨g2, rfl, hg⟩ := act_lit464 a' hlen hdf
    rw [hg] at h0 h1 hC
    rw [h0, h1, hC]
    clear hlen hdf h0 h1 hC hg
    have Hk := Lib.hid hk
    clear hk
    go_wp2_with fail
    obtain ⟨t, ht⟩ : ∃ t, s.extract i (partsEnd s i) = t := ⟨_, rfl⟩
    have htz : t.size ≤ 4096 := by rw [← ht, ByteArray.size_extract]; omega
    refine (H.out.slice dr 0 k _ _ rfl rfl (by omega) (by omega) (by omega)).mono ?_
    rintro e w' ⟨rfl, n4, rfl⟩
    rw [show s.extract (i + 0) (i + k) = t by rw [Hk.out]; exact ht]
    go_wp2_with fail
    refine (H.out.skipN n4 k _ rfl (by omega)).mono ?_
    rintro e w' ⟨rfl, hw⟩
    rw [Hk.out] at hw
    have Hsp := Hspec.out
    unfold wordTok at Hsp
    simp only [ht] at Hsp
    have hx2 := ((H.out.dn n4).lx).setPos ((partsEnd s i : Nat) : Int)
    have hO2 := ((Only.refl b w).dn n4).setCell 9 (.int .i64 ((partsEnd s i : Nat) : Int))
    obtain ⟨W, hW⟩ : ∃ W, (w.drewN n4).setCell ⟨b, 9, none⟩ (.int .i64 ((partsEnd s i : Nat) : Int)) = W := ⟨_, rfl⟩
    rw [show i + 0 = i from rfl] at hw
    rw [hW] at hx2 hO2 hw
    replace hw := hw.symm
    subst hw
    clear hW hk0 hle
    have Hsp2 := Lib.hid Hsp
    have HX2 := Lib.hid hx2
    have HO2 := Lib.hid hO2
    clear Hsp hx2 hO2 Hspec ht
    go_wp2_with fail
    refine (ToUpper_c t W (by omega)).mono ?_
    rintro e W3 ⟨rfl, hbel⟩
    have hx3 := HX2.out.below hbel
    have hO3 := HO2.out.trans (Only.of_below (b := b) hbel)
    have HX3 := Lib.hid hx3
    have HO3 := Lib.hid hO3
    have c1 := hx3.cell1
    have f1 := hx3.free 1
    have c5 := hx3.cell5
    have f5 := hx3.free 5
    clear hx3 hO3 hbel
    obtain ⟨u, hu⟩ : ∃ u, upperS t = u := ⟨_, rfl⟩
    rw [show ({ data := (upperL t.data.toList).toArray } : ByteArray) = u from hu]
    go_wp2_with fail
    refine (ZzKeyword_c u W3).mono ?_
    rintro e w' ⟨rfl, hw⟩
    subst hw
    have Hsp3 := Hsp2.out
    rw [hu, kwB_zzB] at Hsp3
    clear Hsp2 hu
    cases hz : zzB u with
    | true =>
      rw [hz, if_pos rfl] at Hsp3
      have Hsp4 := Lib.hid Hsp3
      have Hd := Lib.hid (zz_nodot hz)
      clear Hsp3 hz
      go_wp2_with fail
      refine bodyPost_ret (results_none rfl _ _ _) rfl ?_
      exact step_tok Hsp4.out (by simp only [tokNext, Hd.out]; rfl) (HX3.out.setKind _) (HO3.out.setCell 1 _)
    | false =>
      rw [hz, if_neg (by simp)] at Hsp3
      have Hsp4 := Lib.hid Hsp3
      clear Hsp3 hz
      go_wp2_with fail
      refine bodyPost_ret (results_none rfl _ _ _) rfl ?_
      exact step_tok Hsp4.out rfl ((HX3.out.setKind _).setText _) ((HO3.out.setCell 1 _).setCell 5 _)
  · intro p hp a' w' hdf hst
    rw [Hquot.out p hp]
    exact ⟨hdf, .tuple #[], results_none rfl _ _ _, hst⟩
  · intro p hp a' w' ch hdf hst
    rw [Hquot.out p hp]
    exact ⟨hdf, hst⟩
set_option maxHeartbeats 8000000 in
set_option maxRecDepth 1000000 in
theorem tok_pre82 (s : ByteArray) (b f i B : Nat) (x : LxS) (w : World) (h : THead s b f i B x w) (hi : i < s.size) (hc : bt s i = 82) :
    Calls Tryz.prog 38 #[.pointer (some ⟨b, 0, none⟩), .bool false] w (Step b f x B (tokStep x (dottedB x.last) (tokOf s i false (dottedB x.last))) w) := by
  have hs := h.env.small
  have Hlet : Hid (letterB 82 = true) := by show _ = _; decide
  have Hword : Hid (prefOf s i = none → tokOf s i false (dottedB x.last) = some (wordTok s i)) := fun hp => word_of hi (by rw [hc]; decide) hp
  have Hquot : Hid (∀ p, prefOf s i = some p → tokOf s i false (dottedB x.last) = quotTok s (i + p.1) p.2.1 p.2.2) := fun p hp => quot_of hi hp
  have Hc := Lib.hid hc
  clear hc
  have H := Lib.hid h
  clear h
  go_enter Tryz.func38, Tryz.ntmps38
  go_wp2_with fail
  refine H.out.eof0.mono ?_
  rintro e w' ⟨rfl, n1, rfl⟩
  rw [decide_eq_false (show ¬ s.size ≤ i by omega)]
  go_wp2_with fail
  refine (H.out.peek n1 0 _ rfl hi).mono ?_
  rintro e w' ⟨rfl, n2, rfl⟩
  rw [show bt s (i + 0) = 82 from Hc.out]
  go_wp2_with fail
  go_step3
  go_wp2_with fail
  go_step3
  go_wp2_with fail
  refine loopP_c s b f i B x w _ _ _ H.out ⟨rfl, rfl, rfl, rfl, 0, 3, false, false, rfl, rfl, rfl, rfl, rfl, _, rfl⟩ ?_ (dottedB x.last) ?_ ?_
  · intro hno a' w' hlen hdf h0 h1 hdr
    have Hspec := Lib.hid (Hword.out hno)
    obtain ⟨dr0, rfl⟩ := hdr
    obtain ⟨g1, rfl, hg⟩ := act_lit464 a' hlen hdf
    rw [hg] at h0 h1
    rw [h0, h1]
    clear hlen hdf h0 h1 hg hno Hword Hquot
    go_wp2_with fail
    rw [Exit.noGoto_normal]
    go_wp2_with fail
    refine (H.out.peek dr0 0 _ rfl hi).mono ?_
    rintro e w' ⟨rfl, n3, rfl⟩
    rw [show bt s (i + 0) = 82 from Hc.out]
    go_wp2_with fail
    refine (IdStart_c _ _).mono ?_
    rintro e w' ⟨rfl, hw⟩
    subst hw
    rw [Hlet.out]
    go_wp2_with fail
    refine scanW_c s b f i B 0 x w _ _ _ H.out ⟨rfl, rfl, rfl, rfl, 0, rfl, by omega, by omega, rfl, _, rfl⟩ ?_
    intro k hk0 hk hle a' w' hlen hdf h0 h1 hC hdr
    obtain ⟨dr, rfl⟩ := hdr
    obtain ⟨g2, rfl, hg⟩ := act_lit464 a' hlen hdf
    rw [hg] at h0 h1 hC
    rw [h0, h1, hC]
    clear hlen hdf h0 h1 hC hg
    have Hk := Lib.hid hk
    clear hk
    go_wp2_with fail
    obtain ⟨t, ht⟩ : ∃ t, s.extract i (partsEnd s i) = t := ⟨_, rfl⟩
    have htz : t.size ≤ 4096 := by rw [← ht, ByteArray.size_extract]; omega
    refine (H.out.slice dr 0 k _ _ rfl rfl (by omega) (by omega) (by omega)).mono ?_
    rintro e w' ⟨rfl, n4, rfl⟩
    rw [show s.extract (i + 0) (i + k) = t by rw [Hk.out]; exact ht]
    go_wp2_with fail
    refine (H.out.skipN n4 k _ rfl (by omega)).mono ?_
    rintro e w' ⟨rfl, hw⟩
    rw [Hk.out] at hw
    have Hsp := Hspec.out
    unfold wordTok at Hsp
    simp only [ht] at Hsp
    have hx2 := ((H.out.dn n4).lx).setPos ((partsEnd s i : Nat) : Int)
    have hO2 := ((Only.refl b w).dn n4).setCell 9 (.int .i64 ((partsEnd s i : Nat) : Int))
    obtain ⟨W, hW⟩ : ∃ W, (w.drewN n4).setCell ⟨b, 9, none⟩ (.int .i64 ((partsEnd s i : Nat) : Int)) = W := ⟨_, rfl⟩
    rw [show i + 0 = i from rfl] at hw
    rw [hW] at hx2 hO2 hw
    replace hw := hw.symm
    subst hw
    clear hW hk0 hle
    have Hsp2 := Lib.hid Hsp
    have HX2 := Lib.hid hx2
    have HO2 := Lib.hid hO2
    clear Hsp hx2 hO2 Hspec ht
    go_wp2_with fail
    refine (ToUpper_c t W (by omega)).mono ?_
    rintro e W3 ⟨rfl, hbel⟩
    have hx3 := HX2.out.below hbel
    have hO3 := HO2.out.trans (Only.of_below (b := b) hbel)
    have HX3 := Lib.hid hx3
    have HO3 := Lib.hid hO3
    have c1 := hx3.cell1
    have f1 := hx3.free 1
    have c5 := hx3.cell5
    have f5 := hx3.free 5
    clear hx3 hO3 hbel
    obtain ⟨u, hu⟩ : ∃ u, upperS t = u := ⟨_, rfl⟩
    rw [show ({ data := (upperL t.data.toList).toArray } : ByteArray) = u from hu]
    go_wp2_with fail
    refine (ZzKeyword_c u W3).mono ?_
    rintro e w' ⟨rfl, hw⟩
    subst hw
    have Hsp3 := Hsp2.out
    rw [hu, kwB_zzB] at Hsp3
    clear Hsp2 hu
    cases hz : zzB u with
    | true =>
      rw [hz, if_pos rfl] at Hsp3
      have Hsp4 := Lib.hid Hsp3
      have Hd := Lib.hid (zz_nodot hz)
      clear Hsp3 hz
      go_wp2_with fail
      refine bodyPost_ret (results_none rfl _ _ _) rfl ?_
      exact step_tok Hsp4.out (by simp only [tokNext, Hd.out]; rfl) (HX3.out.setKind _) (HO3.out.setCell 1 _)
    | false =>
      rw [hz, if_neg (by simp)] at Hsp3
      have Hsp4 := Lib.hid Hsp3
      clear Hsp3 hz
      go_wp2_with fail
      refine bodyPost_ret (results_none rfl _ _ _) rfl ?_
      exact step_tok Hsp4.out rfl ((HX3.out.setKind _).setText _) ((HO3.out.setCell 1 _).setCell 5 _)
  · intro p hp a' w' hdf hst
    rw [Hquot.out p hp]
    exact ⟨hdf, .tuple #[], results_none rfl _ _ _, hst⟩
  · intro p hp a' w' ch hdf hst
    rw [Hquot.out p hp]
    exact ⟨hdf, hst⟩
set_option maxHeartbeats 8000000 in
set_option maxRecDepth 1000000 in
theorem tok_pre114 (s : ByteArray) (b f i B : Nat) (x : LxS) (w : World) (h : THead s b f i B x w) (hi : i < s.size) (hc : bt s i = 114) :
    Calls Tryz.prog 38 #[.pointer (some ⟨b, 0, none⟩), .bool false] w (Step b f x B (tokStep x (dottedB x.last) (tokOf s i false (dottedB x.last))) w) := by
  have hs := h.env.small
  have Hlet : Hid (letterB 114 = true) := by show _ = _; decide
  have Hword : Hid (prefOf s i = none → tokOf s i false (dottedB x.last) = some (wordTok s i)) := fun hp => word_of hi (by rw [hc]; decide) hp
  have Hquot : Hid (∀ p, prefOf s i = some p → tokOf s i false (dottedB x.last) = quotTok s (i + p.1) p.2.1 p.2.2) := fun p hp => quot_of hi hp
  have Hc := Lib.hid hc
  clear hc
  have H := Lib.hid h
  clear h
  go_enter Tryz.func38, Tryz.ntmps38
  go_wp2_with fail
  refine H.out.eof0.mono ?_
  rintro e w' ⟨rfl, n1, rfl⟩
  rw [decide_eq_false (show ¬ s.size ≤ i by omega)]
  go_wp2_with fail
  refine (H.out.peek n1 0 _ rfl hi).mono ?_
  rintro e w' ⟨rfl, n2, rfl⟩
  rw [show bt s (i + 0) = 114 from Hc.out]
  go_wp2_with fail
  go_step3
  go_wp2_with fail
  go_step3
  go_wp2_with fail
  refine loopP_c s b f i B x w _ _ _ H.out ⟨rfl, rfl, rfl, rfl, 0, 3, false, false, rfl, rfl, rfl, rfl, rfl, _, rfl⟩ ?_ (dottedB x.last) ?_ ?_
  · intro hno a' w' hlen hdf h0 h1 hdr
    have Hspec := Lib.hid (Hword.out hno)
    obtain ⟨dr0, rfl⟩ := hdr
    obtain ⟨g1, rfl, hg⟩ := act_lit464 a' hlen hdf
    rw [hg] at h0 h1
    rw [h0, h1]
    clear hlen hdf h0 h1 hg hno Hword Hquot
    go_wp2_with fail
    rw [Exit.noGoto_normal]
    go_wp2_with fail
    refine (H.out.peek dr0 0 _ rfl hi).mono ?_
    rintro e w' ⟨rfl, n3, rfl⟩
    rw [show bt s (i + 0) = 114 from Hc.out]
    go_wp2_with fail
    refine (IdStart_c _ _).mono ?_
    rintro e w' ⟨rfl, hw⟩
    subst hw
    rw [Hlet.out]
    go_wp2_with fail
    refine scanW_c s b f i B 0 x w _ _ _ H.out ⟨rfl, rfl, rfl, rfl, 0, rfl, by omega, by omega, rfl, _, rfl⟩ ?_
    intro k hk0 hk hle a' w' hlen hdf h0 h1 hC hdr
    obtain ⟨dr, rfl⟩ := hdr
    obtain ⟨g2, rfl, hg⟩ := act_lit464 a' hlen hdf
    rw [hg] at h0 h1 hC
    rw [h0, h1, hC]
    clear hlen hdf h0 h1 hC hg
    have Hk := Lib.hid hk
    clear hk
    go_wp2_with fail
    obtain ⟨t, ht⟩ : ∃ t, s.extract i (partsEnd s i) = t := ⟨_, rfl⟩
    have htz : t.size ≤ 4096 := by rw [← ht, ByteArray.size_extract]; omega
    refine (H.out.slice dr 0 k _ _ rfl rfl (by omega) (by omega) (by omega)).mono ?_
    rintro e w' ⟨rfl, n4, rfl⟩
    rw [show s.extract (i + 0) (i + k) = t by rw [Hk.out]; exact ht]
    go_wp2_with fail
    refine (H.out.skipN n4 k _ rfl (by omega)).mono ?_
    rintro e w' ⟨rfl, hw⟩
    rw [Hk.out] at hw
    have Hsp := Hspec.out
    unfold wordTok at Hsp
    simp only [ht] at Hsp
    have hx2 := ((H.out.dn n4).lx).setPos ((partsEnd s i : Nat) : Int)
    have hO2 := ((Only.refl b w).dn n4).setCell 9 (.int .i64 ((partsEnd s i : Nat) : Int))
    obtain ⟨W, hW⟩ : ∃ W, (w.drewN n4).setCell ⟨b, 9, none⟩ (.int .i64 ((partsEnd s i : Nat) : Int)) = W := ⟨_, rfl⟩
    rw [show i + 0 = i from rfl] at hw
    rw [hW] at hx2 hO2 hw
    replace hw := hw.symm
    subst hw
    clear hW hk0 hle
    have Hsp2 := Lib.hid Hsp
    have HX2 := Lib.hid hx2
    have HO2 := Lib.hid hO2
    clear Hsp hx2 hO2 Hspec ht
    go_wp2_with fail
    refine (ToUpper_c t W (by omega)).mono ?_
    rintro e W3 ⟨rfl, hbel⟩
    have hx3 := HX2.out.below hbel
    have hO3 := HO2.out.trans (Only.of_below (b := b) hbel)
    have HX3 := Lib.hid hx3
    have HO3 := Lib.hid hO3
    have c1 := hx3.cell1
    have f1 := hx3.free 1
    have c5 := hx3.cell5
    have f5 := hx3.free 5
    clear hx3 hO3 hbel
    obtain ⟨u, hu⟩ : ∃ u, upperS t = u := ⟨_, rfl⟩
    rw [show ({ data := (upperL t.data.toList).toArray } : ByteArray) = u from hu]
    go_wp2_with fail
    refine (ZzKeyword_c u W3).mono ?_
    rintro e w' ⟨rfl, hw⟩
    subst hw
    have Hsp3 := Hsp2.out
    rw [hu, kwB_zzB] at Hsp3
    clear Hsp2 hu
    cases hz : zzB u with
    | true =>
      rw [hz, if_pos rfl] at Hsp3
      have Hsp4 := Lib.hid Hsp3
      have Hd := Lib.hid (zz_nodot hz)
      clear Hsp3 hz
      go_wp2_with fail
      refine bodyPost_ret (results_none rfl _ _ _) rfl ?_
      exact step_tok Hsp4.out (by simp only [tokNext, Hd.out]; rfl) (HX3.out.setKind _) (HO3.out.setCell 1 _)
    | false =>
      rw [hz, if_neg (by simp)] at Hsp3
      have Hsp4 := Lib.hid Hsp3
      clear Hsp3 hz
      go_wp2_with fail
      refine bodyPost_ret (results_none rfl _ _ _) rfl ?_
      exact step_tok Hsp4.out rfl ((HX3.out.setKind _).setText _) ((HO3.out.setCell 1 _).setCell 5 _)
  · intro p hp a' w' hdf hst
    rw [Hquot.out p hp]
    exact ⟨hdf, .tuple #[], results_none rfl _ _ _, hst⟩
  · intro p hp a' w' ch hdf hst
    rw [Hquot.out p hp]
    exact ⟨hdf, hst⟩
set_option maxHeartbeats 8000000 in
set_option maxRecDepth 1000000 in
theorem tok_pre34 (s : ByteArray) (b f i B : Nat) (x : LxS) (w : World) (h : THead s b f i B x w) (hi : i < s.size) (hc : bt s i = 34) :
    Calls Tryz.prog 38 #[.pointer (some ⟨b, 0, none⟩), .bool false] w (Step b f x B (tokStep x (dottedB x.last) (tokOf s i false (dottedB x.last))) w) := by
  have hs := h.env.small
  have Hword : Hid (prefOf s i = none → tokOf s i false (dottedB x.last) = some (wordTok s i)) := fun hp => by rw [prefOf, prefFrom_quote (by omega) (by rw [Nat.add_zero]; omega)] at hp; cases hp
  have Hquot : Hid (∀ p, prefOf s i = some p → tokOf s i false (dottedB x.last) = quotTok s (i + p.1) p.2.1 p.2.2) := fun p hp => quot_of hi hp
  have Hc := Lib.hid hc
  clear hc
  have H := Lib.hid h
  clear h
  go_enter Tryz.func38, Tryz.ntmps38
  go_wp2_with fail
  refine H.out.eof0.mono ?_
  rintro e w' ⟨rfl, n1, rfl⟩
  rw [decide_eq_false (show ¬ s.size ≤ i by omega)]
  go_wp2_with fail
  refine (H.out.peek n1 0 _ rfl hi).mono ?_
  rintro e w' ⟨rfl, n2, rfl⟩
  rw [show bt s (i + 0) = 34 from Hc.out]
  go_wp2_with fail
  go_step3
  go_wp2_with fail
  go_step3
  go_wp2_with fail
  refine loopP_c s b f i B x w _ _ _ H.out ⟨rfl, rfl, rfl, rfl, 0, 3, false, false, rfl, rfl, rfl, rfl, rfl, _, rfl⟩ ?_ (dottedB x.last) ?_ ?_
  · intro hno a' w' hlen hdf h0 h1 hdr
    rw [prefOf, prefFrom_quote (by omega) (by rw [Nat.add_zero]; have := Hc.out; omega)] at hno
    cases hno
  · intro p hp a' w' hdf hst
    rw [Hquot.out p hp]
    exact ⟨hdf, .tuple #[], results_none rfl _ _ _, hst⟩
  · intro p hp a' w' ch hdf hst
    rw [Hquot.out p hp]
    exact ⟨hdf, hst⟩
set_option maxHeartbeats 8000000 in
set_option maxRecDepth 1000000 in
theorem tok_pre39 (s : ByteArray) (b f i B : Nat) (x : LxS) (w : World) (h : THead s b f i B x w) (hi : i < s.size) (hc : bt s i = 39) :
    Calls Tryz.prog 38 #[.pointer (some ⟨b, 0, none⟩), .bool false] w (Step b f x B (tokStep x (dottedB x.last) (tokOf s i false (dottedB x.last))) w) := by
  have hs := h.env.small
  have Hword : Hid (prefOf s i = none → tokOf s i false (dottedB x.last) = some (wordTok s i)) := fun hp => by rw [prefOf, prefFrom_quote (by omega) (by rw [Nat.add_zero]; omega)] at hp; cases hp
  have Hquot : Hid (∀ p, prefOf s i = some p → tokOf s i false (dottedB x.last) = quotTok s (i + p.1) p.2.1 p.2.2) := fun p hp => quot_of hi hp
  have Hc := Lib.hid hc
  clear hc
  have H := Lib.hid h
  clear h
  go_enter Tryz.func38, Tryz.ntmps38
  go_wp2_with fail
  refine H.out.eof0.mono ?_
  rintro e w' ⟨rfl, n1, rfl⟩
  rw [decide_eq_false (show ¬ s.size ≤ i by omega)]
  go_wp2_with fail
  refine (H.out.peek n1 0 _ rfl hi).mono ?_
  rintro e w' ⟨rfl, n2, rfl⟩
  rw [show bt s (i + 0) = 39 from Hc.out]
  go_wp2_with fail
  go_step3
  go_wp2_with fail
  go_step3
  go_wp2_with fail
  refine loopP_c s b f i B x w _ _ _ H.out ⟨rfl, rfl, rfl, rfl, 0, 3, false, false, rfl, rfl, rfl, rfl, rfl, _, rfl⟩ ?_ (dottedB x.last) ?_ ?_
  · intro hno a' w' hlen hdf h0 h1 hdr
    rw [prefOf, prefFrom_quote (by omega) (by rw [Nat.add_zero]; have := Hc.out; omega)] at hno
    cases hno
  · intro p hp a' w' hdf hst
    rw [Hquot.out p hp]
    exact ⟨hdf, .tuple #[], results_none rfl _ _ _, hst⟩
  · intro p hp a' w' ch hdf hst
    rw [Hquot.out p hp]
    exact ⟨hdf, hst⟩
end Go.Proofs.YtmkkeacbabmaeaaGreatDoor
namespace Go.Proofs.YtmkkeacbabmaeaaGreatDoor
open Go.RowKit Go.PlainAid

set_option maxHeartbeats 8000000 in
set_option maxRecDepth 1000000 in
theorem tok_one40 (s : ByteArray) (b f i B : Nat) (x : LxS) (w : World) (h : THead s b f i B x w) (hi : i < s.size) (hc : bt s i = 40) :
    Calls Tryz.prog 38 #[.pointer (some ⟨b, 0, none⟩), .bool false] w (Step b f x B (tokStep x (dottedB x.last) (tokOf s i false (dottedB x.last))) w) := by
  have hs := h.env.small
  have Hspec : Hid (tokOf s i false (dottedB x.last) = some ⟨⟨#[40]⟩, none, none, i + 1⟩) := by
    show _ = _
    rw [tok_sign hi (by omega) (by rw [hc]; decide) (fun k => by have := k.1; omega) (fun k => by have := k.1; omega) (by omega) (by rw [hc]; decide), signOf_eq]
    simp [symL, sigL, hc]
  have Hc := Lib.hid hc
  clear hc
  have H := Lib.hid h
  clear h
  go_enter Tryz.func38, Tryz.ntmps38
  go_wp2_with fail
  refine H.out.eof0.mono ?_
  rintro e w' ⟨rfl, n1, rfl⟩
  rw [decide_eq_false (show ¬ s.size ≤ i by omega)]
  go_wp2_with fail
  refine (H.out.peek n1 0 _ rfl hi).mono ?_
  rintro e w' ⟨rfl, n2, rfl⟩
  rw [show bt s (i + 0) = 40 from Hc.out]
  go_wp2_with fail
  refine (H.out.skip n2 hi).mono ?_
  rintro e w' ⟨rfl, n3, hw⟩
  rw [Hc.out]
  have hx2 := ((H.out.dn n3).lx).setPos ((i + 1 : Nat) : Int)
  have hO2 := ((Only.refl b w).dn n3).setCell 9 (.int .i64 ((i + 1 : Nat) : Int))
  obtain ⟨W, hW⟩ : ∃ W, (w.drewN n3).setCell ⟨b, 9, none⟩ (.int .i64 ((i + 1 : Nat) : Int)) = W := ⟨_, rfl⟩
  rw [hW] at hx2 hO2 hw
  replace hw := hw.symm
  subst hw
  clear hW
  have HX2 := Lib.hid hx2
  have HO2 := Lib.hid hO2
  have c1 := hx2.cell1
  have f1 := hx2.free 1
  have c11 := hx2.cell11
  have f11 := hx2.free 11
  have hlt := hx2.lt
  clear hx2 hO2
  have hcv : (convert 89 41 (.slice (some ⟨W.heap.size, 0, none⟩) 1 1)).run Tryz.prog (W.alloc (.cells #[.int .u8 40] 5)) = .ok (.string ⟨#[40]⟩) (W.alloc (.cells #[.int .u8 40] 5)) := one_kind W 40
  go_wp2_with fail
  refine bodyPost_ret (results_none rfl _ _ _) rfl ?_
  exact step_tok Hspec.out rfl (alloc_keeps (HX2.out.setKind _)) ((HO2.out.setCell 1 _).alloc _)
set_option maxHeartbeats 8000000 in
set_option maxRecDepth 1000000 in
theorem tok_one41 (s : ByteArray) (b f i B : Nat) (x : LxS) (w : World) (h : THead s b f i B x w) (hi : i < s.size) (hc : bt s i = 41) :
    Calls Tryz.prog 38 #[.pointer (some ⟨b, 0, none⟩), .bool false] w (Step b f x B (tokStep x (dottedB x.last) (tokOf s i false (dottedB x.last))) w) := by
  have hs := h.env.small
  have Hspec : Hid (tokOf s i false (dottedB x.last) = some ⟨⟨#[41]⟩, none, none, i + 1⟩) := by
    show _ = _
    rw [tok_sign hi (by omega) (by rw [hc]; decide) (fun k => by have := k.1; omega) (fun k => by have := k.1; omega) (by omega) (by rw [hc]; decide), signOf_eq]
    simp [symL, sigL, hc]
  have Hc := Lib.hid hc
  clear hc
  have H := Lib.hid h
  clear h
  go_enter Tryz.func38, Tryz.ntmps38
  go_wp2_with fail
  refine H.out.eof0.mono ?_
  rintro e w' ⟨rfl, n1, rfl⟩
  rw [decide_eq_false (show ¬ s.size ≤ i by omega)]
  go_wp2_with fail
  refine (H.out.peek n1 0 _ rfl hi).mono ?_
  rintro e w' ⟨rfl, n2, rfl⟩
  rw [show bt s (i + 0) = 41 from Hc.out]
  go_wp2_with fail
  refine (H.out.skip n2 hi).mono ?_
  rintro e w' ⟨rfl, n3, hw⟩
  rw [Hc.out]
  have hx2 := ((H.out.dn n3).lx).setPos ((i + 1 : Nat) : Int)
  have hO2 := ((Only.refl b w).dn n3).setCell 9 (.int .i64 ((i + 1 : Nat) : Int))
  obtain ⟨W, hW⟩ : ∃ W, (w.drewN n3).setCell ⟨b, 9, none⟩ (.int .i64 ((i + 1 : Nat) : Int)) = W := ⟨_, rfl⟩
  rw [hW] at hx2 hO2 hw
  replace hw := hw.symm
  subst hw
  clear hW
  have HX2 := Lib.hid hx2
  have HO2 := Lib.hid hO2
  have c1 := hx2.cell1
  have f1 := hx2.free 1
  have c11 := hx2.cell11
  have f11 := hx2.free 11
  have hlt := hx2.lt
  clear hx2 hO2
  have hcv : (convert 89 41 (.slice (some ⟨W.heap.size, 0, none⟩) 1 1)).run Tryz.prog (W.alloc (.cells #[.int .u8 41] 5)) = .ok (.string ⟨#[41]⟩) (W.alloc (.cells #[.int .u8 41] 5)) := one_kind W 41
  go_wp2_with fail
  refine bodyPost_ret (results_none rfl _ _ _) rfl ?_
  exact step_tok Hspec.out rfl (alloc_keeps (HX2.out.setKind _)) ((HO2.out.setCell 1 _).alloc _)
set_option maxHeartbeats 8000000 in
set_option maxRecDepth 1000000 in
theorem tok_one123 (s : ByteArray) (b f i B : Nat) (x : LxS) (w : World) (h : THead s b f i B x w) (hi : i < s.size) (hc : bt s i = 123) :
    Calls Tryz.prog 38 #[.pointer (some ⟨b, 0, none⟩), .bool false] w (Step b f x B (tokStep x (dottedB x.last) (tokOf s i false (dottedB x.last))) w) := by
  have hs := h.env.small
  have Hspec : Hid (tokOf s i false (dottedB x.last) = some ⟨⟨#[123]⟩, none, none, i + 1⟩) := by
    show _ = _
    rw [tok_sign hi (by omega) (by rw [hc]; decide) (fun k => by have := k.1; omega) (fun k => by have := k.1; omega) (by omega) (by rw [hc]; decide), signOf_eq]
    simp [symL, sigL, hc]
  have Hc := Lib.hid hc
  clear hc
  have H := Lib.hid h
  clear h
  go_enter Tryz.func38, Tryz.ntmps38
  go_wp2_with fail
  refine H.out.eof0.mono ?_
  rintro e w' ⟨rfl, n1, rfl⟩
  rw [decide_eq_false (show ¬ s.size ≤ i by omega)]
  go_wp2_with fail
  refine (H.out.peek n1 0 _ rfl hi).mono ?_
  rintro e w' ⟨rfl, n2, rfl⟩
  rw [show bt s (i + 0) = 123 from Hc.out]
  go_wp2_with fail
  refine (H.out.skip n2 hi).mono ?_
  rintro e w' ⟨rfl, n3, hw⟩
  rw [Hc.out]
  have hx2 := ((H.out.dn n3).lx).setPos ((i + 1 : Nat) : Int)
  have hO2 := ((Only.refl b w).dn n3).setCell 9 (.int .i64 ((i + 1 : Nat) : Int))
  obtain ⟨W, hW⟩ : ∃ W, (w.drewN n3).setCell ⟨b, 9, none⟩ (.int .i64 ((i + 1 : Nat) : Int)) = W := ⟨_, rfl⟩
  rw [hW] at hx2 hO2 hw
  replace hw := hw.symm
  subst hw
  clear hW
  have HX2 := Lib.hid hx2
  have HO2 := Lib.hid hO2
  have c1 := hx2.cell1
  have f1 := hx2.free 1
  have c11 := hx2.cell11
  have f11 := hx2.free 11
  have hlt := hx2.lt
  clear hx2 hO2
  have hcv : (convert 89 41 (.slice (some ⟨W.heap.size, 0, none⟩) 1 1)).run Tryz.prog (W.alloc (.cells #[.int .u8 123] 5)) = .ok (.string ⟨#[123]⟩) (W.alloc (.cells #[.int .u8 123] 5)) := one_kind W 123
  go_wp2_with fail
  refine bodyPost_ret (results_none rfl _ _ _) rfl ?_
  exact step_tok Hspec.out rfl (alloc_keeps (HX2.out.setKind _)) ((HO2.out.setCell 1 _).alloc _)
set_option maxHeartbeats 8000000 in
set_option maxRecDepth 1000000 in
theorem tok_one125 (s : ByteArray) (b f i B : Nat) (x : LxS) (w : World) (h : THead s b f i B x w) (hi : i < s.size) (hc : bt s i = 125) :
    Calls Tryz.prog 38 #[.pointer (some ⟨b, 0, none⟩), .bool false] w (Step b f x B (tokStep x (dottedB x.last) (tokOf s i false (dottedB x.last))) w) := by
  have hs := h.env.small
  have Hspec : Hid (tokOf s i false (dottedB x.last) = some ⟨⟨#[125]⟩, none, none, i + 1⟩) := by
    show _ = _
    rw [tok_sign hi (by omega) (by rw [hc]; decide) (fun k => by have := k.1; omega) (fun k => by have := k.1; omega) (by omega) (by rw [hc]; decide), signOf_eq]
    simp [symL, sigL, hc]
  have Hc := Lib.hid hc
  clear hc
  have H := Lib.hid h
  clear h
  go_enter Tryz.func38, Tryz.ntmps38
  go_wp2_with fail
  refine H.out.eof0.mono ?_
  rintro e w' ⟨rfl, n1, rfl⟩
  rw [decide_eq_false (show ¬ s.size ≤ i by omega)]
  go_wp2_with fail
  refine (H.out.peek n1 0 _ rfl hi).mono ?_
  rintro e w' ⟨rfl, n2, rfl⟩
  rw [show bt s (i + 0) = 125 from Hc.out]
  go_wp2_with fail
  refine (H.out.skip n2 hi).mono ?_
  rintro e w' ⟨rfl, n3, hw⟩
  rw [Hc.out]
  have hx2 := ((H.out.dn n3).lx).setPos ((i + 1 : Nat) : Int)
  have hO2 := ((Only.refl b w).dn n3).setCell 9 (.int .i64 ((i + 1 : Nat) : Int))
  obtain ⟨W, hW⟩ : ∃ W, (w.drewN n3).setCell ⟨b, 9, none⟩ (.int .i64 ((i + 1 : Nat) : Int)) = W := ⟨_, rfl⟩
  rw [hW] at hx2 hO2 hw
  replace hw := hw.symm
  subst hw
  clear hW
  have HX2 := Lib.hid hx2
  have HO2 := Lib.hid hO2
  have c1 := hx2.cell1
  have f1 := hx2.free 1
  have c11 := hx2.cell11
  have f11 := hx2.free 11
  have hlt := hx2.lt
  clear hx2 hO2
  have hcv : (convert 89 41 (.slice (some ⟨W.heap.size, 0, none⟩) 1 1)).run Tryz.prog (W.alloc (.cells #[.int .u8 125] 5)) = .ok (.string ⟨#[125]⟩) (W.alloc (.cells #[.int .u8 125] 5)) := one_kind W 125
  go_wp2_with fail
  refine bodyPost_ret (results_none rfl _ _ _) rfl ?_
  exact step_tok Hspec.out rfl (alloc_keeps (HX2.out.setKind _)) ((HO2.out.setCell 1 _).alloc _)
set_option maxHeartbeats 8000000 in
set_option maxRecDepth 1000000 in
theorem tok_one59 (s : ByteArray) (b f i B : Nat) (x : LxS) (w : World) (h : THead s b f i B x w) (hi : i < s.size) (hc : bt s i = 59) :
    Calls Tryz.prog 38 #[.pointer (some ⟨b, 0, none⟩), .bool false] w (Step b f x B (tokStep x (dottedB x.last) (tokOf s i false (dottedB x.last))) w) := by
  have hs := h.env.small
  have Hspec : Hid (tokOf s i false (dottedB x.last) = some ⟨⟨#[59]⟩, none, none, i + 1⟩) := by
    show _ = _
    rw [tok_sign hi (by omega) (by rw [hc]; decide) (fun k => by have := k.1; omega) (fun k => by have := k.1; omega) (by omega) (by rw [hc]; decide), signOf_eq]
    simp [symL, sigL, hc]
  have Hc := Lib.hid hc
  clear hc
  have H := Lib.hid h
  clear h
  go_enter Tryz.func38, Tryz.ntmps38
  go_wp2_with fail
  refine H.out.eof0.mono ?_
  rintro e w' ⟨rfl, n1, rfl⟩
  rw [decide_eq_false (show ¬ s.size ≤ i by omega)]
  go_wp2_with fail
  refine (H.out.peek n1 0 _ rfl hi).mono ?_
  rintro e w' ⟨rfl, n2, rfl⟩
  rw [show bt s (i + 0) = 59 from Hc.out]
  go_wp2_with fail
  refine (H.out.skip n2 hi).mono ?_
  rintro e w' ⟨rfl, n3, hw⟩
  rw [Hc.out]
  have hx2 := ((H.out.dn n3).lx).setPos ((i + 1 : Nat) : Int)
  have hO2 := ((Only.refl b w).dn n3).setCell 9 (.int .i64 ((i + 1 : Nat) : Int))
  obtain ⟨W, hW⟩ : ∃ W, (w.drewN n3).setCell ⟨b, 9, none⟩ (.int .i64 ((i + 1 : Nat) : Int)) = W := ⟨_, rfl⟩
  rw [hW] at hx2 hO2 hw
  replace hw := hw.symm
  subst hw
  clear hW
  have HX2 := Lib.hid hx2
  have HO2 := Lib.hid hO2
  have c1 := hx2.cell1
  have f1 := hx2.free 1
  have c11 := hx2.cell11
  have f11 := hx2.free 11
  have hlt := hx2.lt
  clear hx2 hO2
  have hcv : (convert 89 41 (.slice (some ⟨W.heap.size, 0, none⟩) 1 1)).run Tryz.prog (W.alloc (.cells #[.int .u8 59] 5)) = .ok (.string ⟨#[59]⟩) (W.alloc (.cells #[.int .u8 59] 5)) := one_kind W 59
  go_wp2_with fail
  refine bodyPost_ret (results_none rfl _ _ _) rfl ?_
  exact step_tok Hspec.out rfl (alloc_keeps (HX2.out.setKind _)) ((HO2.out.setCell 1 _).alloc _)
set_option maxHeartbeats 8000000 in
set_option maxRecDepth 1000000 in
theorem tok_one44 (s : ByteArray) (b f i B : Nat) (x : LxS) (w : World) (h : THead s b f i B x w) (hi : i < s.size) (hc : bt s i = 44) :
    Calls Tryz.prog 38 #[.pointer (some ⟨b, 0, none⟩), .bool false] w (Step b f x B (tokStep x (dottedB x.last) (tokOf s i false (dottedB x.last))) w) := by
  have hs := h.env.small
  have Hspec : Hid (tokOf s i false (dottedB x.last) = some ⟨⟨#[44]⟩, none, none, i + 1⟩) := by
    show _ = _
    rw [tok_sign hi (by omega) (by rw [hc]; decide) (fun k => by have := k.1; omega) (fun k => by have := k.1; omega) (by omega) (by rw [hc]; decide), signOf_eq]
    simp [symL, sigL, hc]
  have Hc := Lib.hid hc
  clear hc
  have H := Lib.hid h
  clear h
  go_enter Tryz.func38, Tryz.ntmps38
  go_wp2_with fail
  refine H.out.eof0.mono ?_
  rintro e w' ⟨rfl, n1, rfl⟩
  rw [decide_eq_false (show ¬ s.size ≤ i by omega)]
  go_wp2_with fail
  refine (H.out.peek n1 0 _ rfl hi).mono ?_
  rintro e w' ⟨rfl, n2, rfl⟩
  rw [show bt s (i + 0) = 44 from Hc.out]
  go_wp2_with fail
  refine (H.out.skip n2 hi).mono ?_
  rintro e w' ⟨rfl, n3, hw⟩
  rw [Hc.out]
  have hx2 := ((H.out.dn n3).lx).setPos ((i + 1 : Nat) : Int)
  have hO2 := ((Only.refl b w).dn n3).setCell 9 (.int .i64 ((i + 1 : Nat) : Int))
  obtain ⟨W, hW⟩ : ∃ W, (w.drewN n3).setCell ⟨b, 9, none⟩ (.int .i64 ((i + 1 : Nat) : Int)) = W := ⟨_, rfl⟩
  rw [hW] at hx2 hO2 hw
  replace hw := hw.symm
  subst hw
  clear hW
  have HX2 := Lib.hid hx2
  have HO2 := Lib.hid hO2
  have c1 := hx2.cell1
  have f1 := hx2.free 1
  have c11 := hx2.cell11
  have f11 := hx2.free 11
  have hlt := hx2.lt
  clear hx2 hO2
  have hcv : (convert 89 41 (.slice (some ⟨W.heap.size, 0, none⟩) 1 1)).run Tryz.prog (W.alloc (.cells #[.int .u8 44] 5)) = .ok (.string ⟨#[44]⟩) (W.alloc (.cells #[.int .u8 44] 5)) := one_kind W 44
  go_wp2_with fail
  refine bodyPost_ret (results_none rfl _ _ _) rfl ?_
  exact step_tok Hspec.out rfl (alloc_keeps (HX2.out.setKind _)) ((HO2.out.setCell 1 _).alloc _)
set_option maxHeartbeats 8000000 in
set_option maxRecDepth 1000000 in
theorem tok_one91 (s : ByteArray) (b f i B : Nat) (x : LxS) (w : World) (h : THead s b f i B x w) (hi : i < s.size) (hc : bt s i = 91) :
    Calls Tryz.prog 38 #[.pointer (some ⟨b, 0, none⟩), .bool false] w (Step b f x B (tokStep x (dottedB x.last) (tokOf s i false (dottedB x.last))) w) := by
  have hs := h.env.small
  have Hspec : Hid (tokOf s i false (dottedB x.last) = some ⟨⟨#[91]⟩, none, none, i + 1⟩) := by
    show _ = _
    rw [tok_sign hi (by omega) (by rw [hc]; decide) (fun k => by have := k.1; omega) (fun k => by have := k.1; omega) (by omega) (by rw [hc]; decide), signOf_eq]
    simp [symL, sigL, hc]
  have Hc := Lib.hid hc
  clear hc
  have H := Lib.hid h
  clear h
  go_enter Tryz.func38, Tryz.ntmps38
  go_wp2_with fail
  refine H.out.eof0.mono ?_
  rintro e w' ⟨rfl, n1, rfl⟩
  rw [decide_eq_false (show ¬ s.size ≤ i by omega)]
  go_wp2_with fail
  refine (H.out.peek n1 0 _ rfl hi).mono ?_
  rintro e w' ⟨rfl, n2, rfl⟩
  rw [show bt s (i + 0) = 91 from Hc.out]
  go_wp2_with fail
  refine (H.out.skip n2 hi).mono ?_
  rintro e w' ⟨rfl, n3, hw⟩
  rw [Hc.out]
  have hx2 := ((H.out.dn n3).lx).setPos ((i + 1 : Nat) : Int)
  have hO2 := ((Only.refl b w).dn n3).setCell 9 (.int .i64 ((i + 1 : Nat) : Int))
  obtain ⟨W, hW⟩ : ∃ W, (w.drewN n3).setCell ⟨b, 9, none⟩ (.int .i64 ((i + 1 : Nat) : Int)) = W := ⟨_, rfl⟩
  rw [hW] at hx2 hO2 hw
  replace hw := hw.symm
  subst hw
  clear hW
  have HX2 := Lib.hid hx2
  have HO2 := Lib.hid hO2
  have c1 := hx2.cell1
  have f1 := hx2.free 1
  have c11 := hx2.cell11
  have f11 := hx2.free 11
  have hlt := hx2.lt
  clear hx2 hO2
  have hcv : (convert 89 41 (.slice (some ⟨W.heap.size, 0, none⟩) 1 1)).run Tryz.prog (W.alloc (.cells #[.int .u8 91] 5)) = .ok (.string ⟨#[91]⟩) (W.alloc (.cells #[.int .u8 91] 5)) := one_kind W 91
  go_wp2_with fail
  refine bodyPost_ret (results_none rfl _ _ _) rfl ?_
  exact step_tok Hspec.out rfl (alloc_keeps (HX2.out.setKind _)) ((HO2.out.setCell 1 _).alloc _)
set_option maxHeartbeats 8000000 in
set_option maxRecDepth 1000000 in
theorem tok_one93 (s : ByteArray) (b f i B : Nat) (x : LxS) (w : World) (h : THead s b f i B x w) (hi : i < s.size) (hc : bt s i = 93) :
    Calls Tryz.prog 38 #[.pointer (some ⟨b, 0, none⟩), .bool false] w (Step b f x B (tokStep x (dottedB x.last) (tokOf s i false (dottedB x.last))) w) := by
  have hs := h.env.small
  have Hspec : Hid (tokOf s i false (dottedB x.last) = some ⟨⟨#[93]⟩, none, none, i + 1⟩) := by
    show _ = _
    rw [tok_sign hi (by omega) (by rw [hc]; decide) (fun k => by have := k.1; omega) (fun k => by have := k.1; omega) (by omega) (by rw [hc]; decide), signOf_eq]
    simp [symL, sigL, hc]
  have Hc := Lib.hid hc
  clear hc
  have H := Lib.hid h
  clear h
  go_enter Tryz.func38, Tryz.ntmps38
  go_wp2_with fail
  refine H.out.eof0.mono ?_
  rintro e w' ⟨rfl, n1, rfl⟩
  rw [decide_eq_false (show ¬ s.size ≤ i by omega)]
  go_wp2_with fail
  refine (H.out.peek n1 0 _ rfl hi).mono ?_
  rintro e w' ⟨rfl, n2, rfl⟩
  rw [show bt s (i + 0) = 93 from Hc.out]
  go_wp2_with fail
  refine (H.out.skip n2 hi).mono ?_
  rintro e w' ⟨rfl, n3, hw⟩
  rw [Hc.out]
  have hx2 := ((H.out.dn n3).lx).setPos ((i + 1 : Nat) : Int)
  have hO2 := ((Only.refl b w).dn n3).setCell 9 (.int .i64 ((i + 1 : Nat) : Int))
  obtain ⟨W, hW⟩ : ∃ W, (w.drewN n3).setCell ⟨b, 9, none⟩ (.int .i64 ((i + 1 : Nat) : Int)) = W := ⟨_, rfl⟩
  rw [hW] at hx2 hO2 hw
  replace hw := hw.symm
  subst hw
  clear hW
  have HX2 := Lib.hid hx2
  have HO2 := Lib.hid hO2
  have c1 := hx2.cell1
  have f1 := hx2.free 1
  have c11 := hx2.cell11
  have f11 := hx2.free 11
  have hlt := hx2.lt
  clear hx2 hO2
  have hcv : (convert 89 41 (.slice (some ⟨W.heap.size, 0, none⟩) 1 1)).run Tryz.prog (W.alloc (.cells #[.int .u8 93] 5)) = .ok (.string ⟨#[93]⟩) (W.alloc (.cells #[.int .u8 93] 5)) := one_kind W 93
  go_wp2_with fail
  refine bodyPost_ret (results_none rfl _ _ _) rfl ?_
  exact step_tok Hspec.out rfl (alloc_keeps (HX2.out.setKind _)) ((HO2.out.setCell 1 _).alloc _)
set_option maxHeartbeats 8000000 in
set_option maxRecDepth 1000000 in
theorem tok_one126 (s : ByteArray) (b f i B : Nat) (x : LxS) (w : World) (h : THead s b f i B x w) (hi : i < s.size) (hc : bt s i = 126) :
    Calls Tryz.prog 38 #[.pointer (some ⟨b, 0, none⟩), .bool false] w (Step b f x B (tokStep x (dottedB x.last) (tokOf s i false (dottedB x.last))) w) := by
  have hs := h.env.small
  have Hspec : Hid (tokOf s i false (dottedB x.last) = some ⟨⟨#[126]⟩, none, none, i + 1⟩) := by
    show _ = _
    rw [tok_sign hi (by omega) (by rw [hc]; decide) (fun k => by have := k.1; omega) (fun k => by have := k.1; omega) (by omega) (by rw [hc]; decide), signOf_eq]
    simp [symL, sigL, hc]
  have Hc := Lib.hid hc
  clear hc
  have H := Lib.hid h
  clear h
  go_enter Tryz.func38, Tryz.ntmps38
  go_wp2_with fail
  refine H.out.eof0.mono ?_
  rintro e w' ⟨rfl, n1, rfl⟩
  rw [decide_eq_false (show ¬ s.size ≤ i by omega)]
  go_wp2_with fail
  refine (H.out.peek n1 0 _ rfl hi).mono ?_
  rintro e w' ⟨rfl, n2, rfl⟩
  rw [show bt s (i + 0) = 126 from Hc.out]
  go_wp2_with fail
  refine (H.out.skip n2 hi).mono ?_
  rintro e w' ⟨rfl, n3, hw⟩
  rw [Hc.out]
  have hx2 := ((H.out.dn n3).lx).setPos ((i + 1 : Nat) : Int)
  have hO2 := ((Only.refl b w).dn n3).setCell 9 (.int .i64 ((i + 1 : Nat) : Int))
  obtain ⟨W, hW⟩ : ∃ W, (w.drewN n3).setCell ⟨b, 9, none⟩ (.int .i64 ((i + 1 : Nat) : Int)) = W := ⟨_, rfl⟩
  rw [hW] at hx2 hO2 hw
  replace hw := hw.symm
  subst hw
  clear hW
  have HX2 := Lib.hid hx2
  have HO2 := Lib.hid hO2
  have c1 := hx2.cell1
  have f1 := hx2.free 1
  have c11 := hx2.cell11
  have f11 := hx2.free 11
  have hlt := hx2.lt
  clear hx2 hO2
  have hcv : (convert 89 41 (.slice (some ⟨W.heap.size, 0, none⟩) 1 1)).run Tryz.prog (W.alloc (.cells #[.int .u8 126] 5)) = .ok (.string ⟨#[126]⟩) (W.alloc (.cells #[.int .u8 126] 5)) := one_kind W 126
  go_wp2_with fail
  refine bodyPost_ret (results_none rfl _ _ _) rfl ?_
  exact step_tok Hspec.out rfl (alloc_keeps (HX2.out.setKind _)) ((HO2.out.setCell 1 _).alloc _)
end Go.Proofs.YtmkkeacbabmaeaaGreatDoor
