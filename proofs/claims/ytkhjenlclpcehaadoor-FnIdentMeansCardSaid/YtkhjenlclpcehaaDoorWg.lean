/- The reference's escapes are the plain ones. Condition: the text is shorter than 2^61 bytes. -/
import Derived.Test.YtkhjenlclpcehaaDoorBb
import Derived.Test.YtkhjenlclpcehaaDoorPf
import Derived.Deep.DeepCutAuto
import Derived.Deep.CutBlock
namespace Go.Proofs.YtkhjenlclpcehaaDoor
open Go.RowKit Go.PlainAid

/-- A slice of bytes that a call has made: its cells are these bytes. -/
def PartAt (w : World) (g : Nat) (l : List UInt8) : Prop := ∀ j (h : j < l.length), w.cell? ⟨g, j, none⟩ = some (.int .u8 ((l[j]'h).toNat : Int))
/-- What an escape gives. -/
def EscPost (s : ByteArray) (i : Nat) (o : Option (List UInt8 × Nat)) (w : World) (e : Ending) (w' : World) : Prop :=
  match o with
  | none => e = .returned (.tuple #[.slice none 0 0, .int .i64 i, .bool false]) ∧ Below w.heap.size w w'
  | some p => ∃ g cap, e = .returned (.tuple #[.slice (some ⟨g, 0, none⟩) p.1.length cap, .int .i64 p.2, .bool true]) ∧ PartAt w' g p.1 ∧ w.heap.size ≤ g ∧ Below w.heap.size w w'

theorem escPost_none {s : ByteArray} {i : Nat} {o : Option (List UInt8 × Nat)} {w w' : World} (ho : o = none) (hb : Below w.heap.size w w') : EscPost s i o w (.returned (.tuple #[.slice none 0 0, .int .i64 i, .bool false])) w' := by
  subst ho; exact ⟨rfl, hb⟩
theorem escPost_one {s : ByteArray} {i n : Nat} {o : Option (List UInt8 × Nat)} {w w' : World} {v : Int} {g cap : Nat} (h0 : 0 ≤ v) (h1 : v ≤ 255) (ho : o = some ([asB v], n)) (hc : w'.cell? ⟨g, 0, none⟩ = some (.int .u8 v)) (hg : w.heap.size ≤ g) (hb : Below w.heap.size w w') :
    EscPost s i o w (.returned (.tuple #[.slice (some ⟨g, 0, none⟩) 1 cap, .int .i64 n, .bool true])) w' := by
  subst ho
  refine ⟨g, cap, rfl, ?_, hg, hb⟩
  intro j hj
  obtain rfl : j = 0 := by simp at hj; exact hj
  rw [hc]; show _ = some (Value.int IntKind.u8 ((asB v).toNat : Int)); rw [asB_val h0 h1]

theorem escPost_many {s t : ByteArray} {i n cap : Nat} {o : Option (List UInt8 × Nat)} {w : World} (ho : o = some (t.data.toList, n)) :
    EscPost s i o w (.returned (.tuple #[.slice (some ⟨w.heap.size, 0, none⟩) t.size cap, .int .i64 n, .bool true])) (Lib.bytesWorld w 5 t) := by
  subst ho
  exact ⟨w.heap.size, cap, by simp, fun j hj => (bytesAt_new w t).cell j hj, Nat.le_refl _, below_bytesWorld w t⟩
theorem cell_new_one (w : World) (v : Value) (T : TypeId) : (w.alloc (.cells #[v] T)).cell? ⟨w.heap.size, 0, none⟩ = some v := by
  rw [World.cell?_alloc_mark]; rfl

theorem escF_const : ({ data := #[97, 98, 102, 110, 114, 116, 118, 92, 63, 34, 39, 96] } : ByteArray) = escF := rfl
theorem escT_const : ({ data := #[7, 8, 12, 10, 13, 9, 11, 92, 63, 34, 39, 96] } : ByteArray) = escT := rfl

set_option maxHeartbeats 3200000 in
set_option maxRecDepth 100000 in
theorem Escape_c (s : ByteArray) (i : Nat) (bytes : Bool) (w : World) (hs : s.size ≤ 2305843009213693952) (hi : i < s.size) :
    Calls Tryd.prog 41 #[.string s, .int .i64 i, .bool bytes] w (EscPost s i (escOf s i bytes) w) := by
  have hb := get_bt s
  by_cases hlt : i + 1 < s.size
  · have hn0 := bt_nonneg s
    have hn1 := bt_le s
    obtain ⟨c, hc⟩ : ∃ c, bt s (i + 1) = c := ⟨_, rfl⟩
    have hc0 : 0 ≤ c := by rw [← hc]; exact hn0 _
    have hc1 : c ≤ 255 := by rw [← hc]; exact hn1 _
    have hb2 : ((s[i + 1]'hlt).toNat : Int) = c := by rw [hb _ hlt]; exact hc
    have Hb := Lib.hid hb
    have Hc := Lib.hid hc
    have Hn0 := Lib.hid hn0
    have Hn1 := Lib.hid hn1
    clear hb hc hn0 hn1
    go_enter Tryd.func41, Tryd.ntmps41
    rw [escF_const, escT_const]
    obtain ⟨F, hF⟩ : ∃ F, F = escF := ⟨_, rfl⟩
    obtain ⟨T, hT⟩ : ∃ T, T = escT := ⟨_, rfl⟩
    rw [← hF, ← hT]
    have hF1 : F.size ≤ 12 := by rw [hF]; decide
    have hF2 : 12 ≤ F.size := by rw [hF]; decide
    have hT2 : 12 ≤ T.size := by rw [hT]; decide
    have Hsim : Hid (simpleEsc c = simpFrom F T c 0) := by show _ = _; rw [hF, hT]; rfl
    clear hF hT
    go_upto_block 0 with fail
    go_cut [] (fun wc => wc = w ∧ Hid (simpleEsc c = none))
    case first => as_aux_lemma =>
      have hFb := get_bt F
      have hTb := get_bt T
      go_wp2_with fail
      go_loop [10] (fun v => ∃ k : Nat, k ≤ 12 ∧ v = .int .i64 k ∧ Hid (simpFrom F T c k = simpFrom F T c 0)) (fun v => 12 - (intOf v).toNat)
      case atStart => exact ⟨0, by omega, rfl, rfl⟩
      case round =>
        obtain ⟨k, hk, rfl, hr⟩ := hrel
        by_cases hlt2 : k < 12
        · by_cases hh : bt F k = c
          · have hu : Hid (escOf s i bytes = some ([asB (bt T k)], i + 2)) := by
              show _ = _
              exact escOf_simple hlt (by rw [Hc.out, Hsim.out, ← hr.out, simpFrom_hit hlt2 hh])
            have hbq : (bt F k == c) = true := by simp [hh]
            clear hh
            have ht0 := bt_nonneg T k
            have ht1 := bt_le T k
            go_wp2
            go_ret3
            exact escPost_one ht0 ht1 hu.out (cell_new_one _ _ _) (by simp) ((Below.refl _ _).alloc (Nat.le_refl _) _)
          · have hbq : (bt F k == c) = false := by simp [hh]
            go_wp2
            go_round
            case rel => exact ⟨k + 1, by omega, by go_num, by show simpFrom F T c (k + 1) = _; rw [← hr.out, simpFrom_go hlt2 hh]⟩
            case measure => simp [intOf]; omega
        · go_wp2
          go_meet
          case rel => exact ⟨rfl, by show _ = _; rw [Hsim.out, ← hr.out, simpFrom_end hlt2]⟩
    case rest =>
      obtain ⟨rfl, Hno⟩ := hcut
      clear Hsim hF1 hF2 hT2
      go_upto_block 2 with fail
      go_cut [11, 12] (fun v11 v12 wc2 => ∃ d : Nat, v11 = .int .i64 0 ∧ v12 = .int .i64 d ∧ (d = 2 ∨ d = 4 ∨ d = 8) ∧ wc2 = wc ∧ Hid (escOf s i bytes = escHex s i d))
      case first => as_aux_lemma =>
        have Hno' : Hid (simpleEsc (bt s (i + 1)) = none) := by show _ = _; rw [Hc.out]; exact Hno.out
        by_cases ho : 48 ≤ c ∧ c ≤ 51
        · have hoc : Hid (escOf s i bytes = escOct s i) := by show _ = _; exact escOf_oct hlt Hno'.out (by rw [Hc.out]; exact ho)
          obtain ⟨ho1, ho2⟩ := ho
          by_cases h4 : i + 4 ≤ s.size
          · have hfin : Hid (escOct s i = (octVal s 3 (i + 1) 0).map fun v => ([asB (v % 256)], i + 4)) := by show _ = _; rw [escOct, if_pos h4]
            go_wp2_with fail
            go_loop [11, 13] (fun v11 v13 => ∃ (j m : Nat) (v : Int), j + m = 3 ∧ v13 = .int .i64 (i + 1 + j) ∧ v11 = .int .i64 v ∧ 0 ≤ v ∧ Hid (octBd m v) ∧ Hid (octVal s m (i + 1 + j) v = octVal s 3 (i + 1) 0)) (fun _ v13 => s.size - (intOf v13).toNat)
            case atStart => exact ⟨0, 3, 0, rfl, by go_num, rfl, by omega, by unfold Hid octBd; omega, rfl⟩
            case round =>
              obtain ⟨j, m, v, hjm, rfl, rfl, hv0, hbd, hr⟩ := hrel
              by_cases hj : j < 3
              · obtain ⟨m, rfl⟩ : ∃ q, m = q + 1 := ⟨m - 1, by omega⟩
                have hv1 := octBd_le hbd.out
                have hlt3 : i + 1 + j < s.size := by omega
                obtain ⟨x, hx⟩ : ∃ x, bt s (i + 1 + j) = x := ⟨_, rfl⟩
                have hx0 : 0 ≤ x := by rw [← hx]; exact Hn0.out _
                have hx1 : x ≤ 255 := by rw [← hx]; exact Hn1.out _
                have hb3 : ((s[i + 1 + j]'hlt3).toNat : Int) = x := by rw [Hb.out _ hlt3]; exact hx
                have Hx := Lib.hid hx
                clear hx
                by_cases hd : 48 ≤ x ∧ x ≤ 55
                · obtain ⟨hd1, hd2⟩ := hd
                  have hstep : Hid (octVal s m (i + 1 + (j + 1)) (8 * v + (x - 48)) = octVal s 3 (i + 1) 0) := by
                    show _ = _
                    rw [← hr.out, octVal, Hx.out, if_pos ⟨hd1, hd2⟩]; rfl
                  have hbd2 := Lib.hid (octBd_step (x := x - 48) hbd.out (by omega))
                  go_wp2
                  go_round
                  case rel => exact ⟨j + 1, m, 8 * v + (x - 48), by omega, by go_num, by go_num, by omega, hbd2, hstep⟩
                  case measure => simp [intOf]; omega
                · have hbad : Hid (escOf s i bytes = none) := by
                    show _ = _
                    rw [hoc.out, hfin.out, ← hr.out, octVal, Hx.out, if_neg hd]; rfl
                  by_cases hd1 : x < 48
                  all_goals
                    go_wp2
                    go_ret3
                    exact escPost_none hbad.out (Below.refl _ _)
              · obtain rfl : m = 0 := by omega
                obtain rfl : j = 3 := by omega
                have hbd0 := hbd.out
                have hv1 : v ≤ 511 := by unfold octBd at hbd0; omega
                clear hbd0
                have hgood : Hid (escOf s i bytes = some ([asB (v % 256)], i + 4)) := by
                  show _ = _
                  rw [hoc.out, hfin.out, ← hr.out]; rfl
                go_wp2
                go_ret3
                exact escPost_one (by omega) (by omega) hgood.out (cell_new_one _ _ _) (by simp) ((Below.refl _ _).alloc (Nat.le_refl _) _)
          · have hfin : Hid (escOf s i bytes = none) := by show _ = _; rw [hoc.out, escOct, if_neg h4]
            go_wp2
            go_ret3
            exact escPost_none hfin.out (Below.refl _ _)
        · have hdig : ∀ d, escDigits c bytes = some d → escOf s i bytes = escHex s i d := fun d hd => escOf_hex hlt Hno'.out (by rw [Hc.out]; exact ho) (by rw [Hc.out]; exact hd)
          have hnod : escDigits c bytes = none → escOf s i bytes = none := fun hd => escOf_no hlt Hno'.out (by rw [Hc.out]; exact ho) (by rw [Hc.out]; exact hd)
          have Hdig := Lib.hid hdig
          have Hnod := Lib.hid hnod
          clear hdig hnod
          have hnoct : ¬ (48 ≤ c ∧ c ≤ 51) := ho
          clear Hno Hno' ho
          by_cases h1 : c = 120
          · subst h1
            have hd : Hid (escOf s i bytes = escHex s i 2) := Hdig.out 2 (by rw [escDigits, if_pos (Or.inl rfl)])
            go_wp2
            go_meet
            case rel => exact ⟨2, rfl, rfl, Or.inl rfl, rfl, hd⟩
          · by_cases h2 : c = 88
            · subst h2
              have hd : Hid (escOf s i bytes = escHex s i 2) := Hdig.out 2 (by rw [escDigits, if_pos (Or.inr rfl)])
              go_wp2
              go_meet
              case rel => exact ⟨2, rfl, rfl, Or.inl rfl, rfl, hd⟩
            · by_cases h3 : c = 117
              · subst h3
                cases bytes
                · have hd : Hid (escOf s i false = escHex s i 4) := Hdig.out 4 (by decide)
                  go_wp2
                  go_meet
                  case rel => exact ⟨4, rfl, rfl, Or.inr (Or.inl rfl), rfl, hd⟩
                · have hd : Hid (escOf s i true = none) := Hnod.out (by decide)
                  go_wp2
                  go_ret3
                  exact escPost_none hd.out (Below.refl _ _)
              · by_cases h4 : c = 85
                · subst h4
                  cases bytes
                  · have hd : Hid (escOf s i false = escHex s i 8) := Hdig.out 8 (by decide)
                    go_wp2
                    go_meet
                    case rel => exact ⟨8, rfl, rfl, Or.inr (Or.inr rfl), rfl, hd⟩
                  · have hd : Hid (escOf s i true = none) := Hnod.out (by decide)
                    go_wp2
                    go_ret3
                    exact escPost_none hd.out (Below.refl _ _)
                · have hd : Hid (escOf s i bytes = none) := Hnod.out (by rw [escDigits, if_neg (by omega), if_neg (fun k => h3 k.1), if_neg (fun k => h4 k.1)])
                  have e1 : (c == 120) = false := by simp [h1]
                  have e2 : (c == 88) = false := by simp [h2]
                  have e3 : (c == 117) = false := by simp [h3]
                  have e4 : (c == 85) = false := by simp [h4]
                  clear h1 h2 h3 h4 Hdig Hnod
                  rcases (show c < 48 ∨ 51 < c by omega) with hlo | hhi
                  all_goals
                    clear hnoct
                    go_wp2
                    go_ret3
                    exact escPost_none hd.out (Below.refl _ _)
      case rest => as_aux_lemma =>
        obtain ⟨d, rfl, rfl, hd, rfl, hesc⟩ := hcut
        have hd8 : d ≤ 8 := by omega
        have hd2 : 2 ≤ d := by omega
        clear hb2 Hc Hno
        by_cases hfit : i + 2 + d ≤ s.size
        · have hfin : Hid (escOf s i bytes = ((hexVal s d (i + 2) 0).bind (hexPart d)).map fun p => (p, i + 2 + d)) := by show _ = _; rw [hesc.out, escHex, if_pos hfit]
          go_upto_block 5 with fail
          go_cut [11] (fun v11 wc2 => ∃ v : Int, v11 = .int .i64 v ∧ 0 ≤ v ∧ v ≤ 4294967295 ∧ wc2 = wc ∧ Hid (hexVal s d (i + 2) 0 = some v))
          case first => as_aux_lemma =>
            go_wp2_with fail
            go_loop [11, 14] (fun v11 v14 => ∃ (j m : Nat) (v : Int), j + m = d ∧ v14 = .int .i64 (i + 2 + j) ∧ v11 = .int .i64 v ∧ 0 ≤ v ∧ Hid (hexBd j v) ∧ Hid (hexVal s m (i + 2 + j) v = hexVal s d (i + 2) 0)) (fun _ v14 => s.size - (intOf v14).toNat)
            case atStart => exact ⟨0, d, 0, by omega, by go_num, rfl, by omega, hexBd_zero, rfl⟩
            case round =>
              obtain ⟨j, m, v, hjm, rfl, rfl, hv0, hbd, hr⟩ := hrel
              by_cases hj : j < d
              · obtain ⟨m, rfl⟩ : ∃ q, m = q + 1 := ⟨m - 1, by omega⟩
                have hv1 := hexBd_le7 hbd.out (by omega)
                have hlt3 : i + 2 + j < s.size := by omega
                obtain ⟨x, hx⟩ : ∃ x, bt s (i + 2 + j) = x := ⟨_, rfl⟩
                have hx0 : 0 ≤ x := by rw [← hx]; exact Hn0.out _
                have hx1 : x ≤ 255 := by rw [← hx]; exact Hn1.out _
                have hb3 : ((s[i + 2 + j]'hlt3).toNat : Int) = x := by rw [Hb.out _ hlt3]; exact hx
                have Hx := Lib.hid hx
                clear hx
                have hq1 := hexV_le x
                by_cases hq0 : 0 ≤ hexV x
                · have hstep : Hid (hexVal s m (i + 2 + (j + 1)) (16 * v + hexV x) = hexVal s d (i + 2) 0) := by
                    show _ = _
                    rw [← hr.out, hexVal, Hx.out, if_pos hq0]; rfl
                  have hbd2 := Lib.hid (hexBd_step (x := hexV x) hbd.out hq1)
                  go_wp2_with (go_at_call 42; refine (Hex_c _ _ hx0 hx1).mono ?_; rintro e w' ⟨rfl, rfl⟩)
                  go_round
                  case rel => exact ⟨j + 1, m, 16 * v + hexV x, by omega, by go_num, by go_num, by omega, hbd2, hstep⟩
                  case measure => simp [intOf]; omega
                · have hbad : Hid (escOf s i bytes = none) := by
                    show _ = _
                    rw [hfin.out, ← hr.out, hexVal, Hx.out, if_neg hq0]; rfl
                  go_wp2_with (go_at_call 42; refine (Hex_c _ _ hx0 hx1).mono ?_; rintro e w' ⟨rfl, rfl⟩)
                  go_ret3
                  exact escPost_none hbad.out (Below.refl _ _)
              · obtain rfl : m = 0 := by omega
                obtain rfl : j = d := by omega
                have hv1 := hexBd_le hbd.out hd8
                go_wp2
                go_meet
                case rel => exact ⟨v, rfl, hv0, hv1, rfl, by show _ = _; rw [← hr.out]; rfl⟩
          case rest => as_aux_lemma =>
            obtain ⟨v, rfl, hv0, hv1, rfl, hval⟩ := hcut
            have hres : Hid (escOf s i bytes = (hexPart d v).map fun p => (p, i + 2 + d)) := by show _ = _; rw [hfin.out, hval.out]; rfl
            clear hfin hval hesc
            by_cases hd2' : d = 2
            · subst hd2'
              have hgood : Hid (escOf s i bytes = some ([asB (v % 256)], i + 4)) := by show _ = _; rw [hres.out]; rfl
              have h1 := Int.emod_nonneg v (show (256 : Int) ≠ 0 by decide)
              have h2 := Int.emod_lt_of_pos v (show (0 : Int) < 256 by decide)
              go_wp2
              go_ret3
              exact escPost_one (by omega) (by omega) hgood.out (cell_new_one _ _ _) (by simp) ((Below.refl _ _).alloc (Nat.le_refl _) _)
            · have hne : ((d : Int) == 2) = false := by simp; omega
              by_cases hbadr : 1114111 < v ∨ (55296 ≤ v ∧ v < 57344)
              · have hbad : Hid (escOf s i bytes = none) := by show _ = _; rw [hres.out, hexPart, if_neg hd2', if_pos hbadr]; rfl
                by_cases hb1 : 1114111 < v
                · go_wp2
                  go_ret3
                  exact escPost_none hbad.out (Below.refl _ _)
                · have hb2 : 55296 ≤ v := by omega
                  have hb3 : v < 57344 := by omega
                  go_wp2
                  go_ret3
                  exact escPost_none hbad.out (Below.refl _ _)
              · have hgood : Hid (escOf s i bytes = some ((Utf8.encode v).data.toList, i + 2 + d)) := by show _ = _; rw [hres.out, hexPart, if_neg hd2', if_neg hbadr]; rfl
                have hcv := run_bytes_of wc (Utf8.encode v)
                have hv2 : v ≤ 1114111 := by omega
                obtain ⟨cap, hcap⟩ : ∃ cap, grownCap wc (Utf8.encode v).size 0 5 = cap := ⟨_, rfl⟩
                rw [hcap] at hcv
                clear hcap
                rcases (show v < 55296 ∨ 57344 ≤ v by omega) with hlo | hhi
                all_goals
                  clear hbadr
                  go_wp2
                  go_ret3
                  exact escPost_many hgood.out
        · have hbad : Hid (escOf s i bytes = none) := by show _ = _; rw [hesc.out, escHex, if_neg hfit]
          go_wp2
          go_ret3
          exact escPost_none hbad.out (Below.refl _ _)
  · go_enter Tryd.func41, Tryd.ntmps41
    have hend := Lib.hid (escOf_end (bytes := bytes) hlt)
    go_wp2
    go_ret3
    exact escPost_none hend.out (Below.refl _ _)
end Go.Proofs.YtkhjenlclpcehaaDoor
