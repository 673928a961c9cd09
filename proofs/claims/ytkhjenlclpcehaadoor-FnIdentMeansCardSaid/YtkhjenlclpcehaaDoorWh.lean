/- What the reference reads between quotation marks is the plain value. Condition: the text is at most 2^45 bytes long. -/
import Derived.Test.YtkhjenlclpcehaaDoorWg
import Derived.Test.YtkhjenlclpcehaaDoorPg
import Derived.Lib.BufferRead
import Derived.Deep.LoopGhost
namespace Go.Proofs.YtkhjenlclpcehaaDoor
open Go.RowKit Go.PlainAid

theorem info_u8 : (Tryd.prog.info? 5).map (fun i => (i.zero, i.size, i.bytes)) = some (some (.int .u8 0), 1, 1) := by kernel_rfl

/-- 'string(v)' of a row that the call owns. -/
theorem own_string {w : World} {base : Nat} {v : Value} {l : List UInt8} (h : w.ownsRow base 5 1 v l.length (Lib.byteCells l)) :
    (convert 38 9 v).run Tryd.prog w = .ok (.string ⟨l.toArray⟩) w := by
  rcases h.2 with ⟨rfl, hn⟩ | ⟨g, cap, cur, rfl, hb, hg, hle, _, hsz, htk⟩
  · obtain rfl : l = [] := List.length_eq_zero_iff.1 hn
    exact Lib.run_convert_nil_bytes w 38 9 5 0 Tryd.underlying38 Tryd.underlying5 Tryd.underlying9
  · rw [Nat.mul_one] at htk
    exact run_convert_bytes_back w 38 9 5 ⟨g, 0, none⟩ cap l Tryd.underlying38 Tryd.underlying5 Tryd.underlying9 (Lib.bytes_of_row hg htk)

theorem own_push {w : World} {base : Nat} {v : Value} {l r : List UInt8} {n : Nat} {xs : List Value} (h : w.ownsRow base 5 1 v n xs) (hn : n = (l ++ r).length) (hx : xs = Lib.byteCells (l ++ r)) :
    w.ownsRow base 5 1 v (l ++ r).length (Lib.byteCells (l ++ r)) := by subst hn; subst hx; exact h
theorem own_below {w w' : World} {base : Nat} {v : Value} {n : Nat} {xs : List Value} (h : w.ownsRow base 5 1 v n xs) (hb : Below w.heap.size w w') : w'.ownsRow base 5 1 v n xs :=
  h.kept (row := none) ⟨hb.os, hb.tape, hb.output, hb.size, fun k hk _ => hb.block k hk⟩ (by cases v.ownBlock <;> simp)
theorem cells_byte (b : UInt8) : Lib.byteCells [b] = [.int .u8 (b.toNat : Int)] := rfl
theorem cells_two (a b : UInt8) : Lib.byteCells [a, b] = [.int .u8 (a.toNat : Int), .int .u8 (b.toNat : Int)] := rfl

theorem cells_new (w : World) (cs : Array Value) (T : TypeId) : ∀ (j : Nat) (u : Value), cs.toList[j]? = some u → (w.alloc (.cells cs T)).cell? ((⟨w.heap.size, 0, none⟩ : Addr).add j) = some u := by
  intro j u h
  rw [add_off, World.cell?_alloc_mark]
  simpa using h
theorem cells_part {w : World} {g : Nat} {l : List UInt8} (h : PartAt w g l) : ∀ (j : Nat) (u : Value), (Lib.byteCells l)[j]? = some u → w.cell? ((⟨g, 0, none⟩ : Addr).add j) = some u := by
  intro j u hu
  have hj : j < l.length := by have := (List.getElem?_eq_some_iff.1 hu).1; simpa [Lib.byteCells] using this
  rw [add_off, h j hj]
  simpa [Lib.byteCells, hj] using hu
/-- Behind an append of bytes. -/
theorem quot_push {B : Nat} {w wr wx w1 : World} {v v' : Value} {l r : List UInt8} {n : Nat} {xs : List Value} (hown : wx.ownsRow B 5 1 v l.length (Lib.byteCells l)) (hbw : Below B w wr) (hB : B ≤ wr.heap.size) (hx : Below wr.heap.size wr wx)
    (h' : w1.ownsRow B 5 1 v' (l.length + n) (Lib.byteCells l ++ xs)) (hg : wx.grownBy w1 v.ownBlock) (hn : n = r.length) (hxs : xs = Lib.byteCells r) :
    w1.ownsRow B 5 1 v' (l ++ r).length (Lib.byteCells (l ++ r)) ∧ Below B w w1 := by
  subst hn; subst hxs
  refine ⟨?_, ?_⟩
  · rw [Lib.byteCells_append, List.length_append]; exact h'
  · exact (hbw.trans (hx.mono hB)).grown hg (Nat.le_trans hB hx.size) (fun k hk => (hown.lt k hk).1)

def tripB (s q1 : ByteArray) (i : Nat) : Bool := decide (q1.toList ≠ [96] ∧ startsB s i (q1 ++ q1 ++ q1) = true)
def nl1B (s q : ByteArray) (k : Nat) : Bool := decide (bt s k = 10 ∧ q.size = 1)
def nlB (s q : ByteArray) (k : Nat) : Bool := decide (isNL (bt s k) ∧ q.size = 1)
def QPost (r : QRes) (w : World) (e : Ending) (w' : World) : Prop :=
  (match r with
  | .good v n => e = .returned (.tuple #[.string ⟨v.toArray⟩, .int .i64 n, .bool true])
  | .bad n => e = .returned (.tuple #[.string ⟨#[]⟩, .int .i64 n, .bool false])) ∧ Below w.heap.size w w'


theorem qpost_good {r : QRes} {w w' : World} {l : List UInt8} {n : Nat} (h : r = .good l n) (hb : Below w.heap.size w w') : QPost r w (.returned (.tuple #[.string ⟨l.toArray⟩, .int .i64 n, .bool true])) w' := by subst h; exact ⟨rfl, hb⟩
theorem qpost_bad {r : QRes} {w w' : World} {n : Nat} (h : r = .bad n) (hb : Below w.heap.size w w') : QPost r w (.returned (.tuple #[.string ⟨#[]⟩, .int .i64 n, .bool false])) w' := by subst h; exact ⟨rfl, hb⟩

set_option maxHeartbeats 3200000 in
set_option maxRecDepth 100000 in
theorem Quoted_c (s : ByteArray) (i : Nat) (raw bytes : Bool) (w : World) (hs : s.size ≤ 35184372088832) (hi : i < s.size) :
    Calls Tryd.prog 25 #[.string s, .int .i64 i, .bool raw, .bool bytes] w (QPost (quotOf s i raw bytes) w) := by
  go_enter Tryd.func25, Tryd.ntmps25
  go_upto_region 2 with fail
  have hq1s : (s.extract i (i + 1)).size ≤ 1 := by rw [ByteArray.size_extract]; omega
  have hq1t : 1 ≤ (s.extract i (i + 1)).size := by rw [ByteArray.size_extract]; omega
  have hmk : ∀ q1, s.extract i (i + 1) = q1 → markOf s i = if q1.toList ≠ [96] ∧ startsB s i (q1 ++ q1 ++ q1) = true then q1 ++ q1 ++ q1 else q1 := fun q1 h => by rw [markOf, h]
  obtain ⟨q1, hq1⟩ : ∃ q1, s.extract i (i + 1) = q1 := ⟨_, rfl⟩
  have Hmk := Lib.hid (hmk q1 hq1)
  rw [hq1] at hq1s hq1t
  rw [hq1]
  clear hmk hq1
  go_cut [34] (fun v wc => v = .bool (tripB s q1 i) ∧ w = wc)
  case first => as_aux_lemma =>
    by_cases hq : q1.toList = [96]
    · have hd : Hid (tripB s q1 i = false) := by show _ = _; simp [tripB, hq]
      go_wp2_with fail
      go_meet
      case rel => exact ⟨by rw [hd.out], rfl⟩
    · have hd : Hid (tripB s q1 i = startsB s i (q1 ++ q1 ++ q1)) := by show _ = _; cases hs : startsB s i (q1 ++ q1 ++ q1) <;> simp [tripB, hq, hs]
      go_wp2_with (go_at_call 23; refine (lStarts_c _ _ _ _ (by omega) (by simp only [ByteArray.size_append]; omega) (by omega)).mono ?_; rintro e w' ⟨rfl, rfl⟩)
      go_meet
      case rel => exact ⟨by rw [hd.out]; simp [hq], rfl⟩
  case rest => as_aux_lemma =>
    obtain ⟨rfl, rfl⟩ := hcut
    go_upto_if 34 with fail
    go_cut [11] (fun v wc2 => ∃ q : ByteArray, v = .string q ∧ w = wc2 ∧ 1 ≤ q.size ∧ q.size ≤ 3 ∧ Hid (markOf s i = q))
    case first => as_aux_lemma =>
      by_cases hd : q1.toList ≠ [96] ∧ startsB s i (q1 ++ q1 ++ q1) = true
      · have hdb : tripB s q1 i = true := decide_eq_true hd
        have Hq : Hid (markOf s i = q1 ++ q1 ++ q1) := by show _ = _; rw [Hmk.out, if_pos hd]
        rw [hdb]
        clear hd hdb
        go_wp2_with fail
        go_meet
        case rel => exact ⟨q1 ++ q1 ++ q1, rfl, rfl, by simp only [ByteArray.size_append]; omega, by simp only [ByteArray.size_append]; omega, Hq⟩
      · have hdb : tripB s q1 i = false := decide_eq_false hd
        have Hq : Hid (markOf s i = q1) := by show _ = _; rw [Hmk.out, if_neg hd]
        rw [hdb]
        clear hd hdb
        go_wp2_with fail
        go_meet
        case rel => exact ⟨q1, rfl, rfl, hq1t, by omega, Hq⟩
    case rest => as_aux_lemma =>
      obtain ⟨q, rfl, rfl, hq1, hq3, Hq⟩ := hcut
      clear Hmk hq1s hq1t
      go_wp2_with fail
      have hfin : Hid (quotOf s i raw bytes = quotFrom s q raw bytes s.size (i + q.size) []) := by show _ = _; rw [quotOf, Hq.out]
      obtain ⟨i0, hi0, hz0, hz1, hz2⟩ := info_parts info_u8
      go_loopg [12, 13] s.size (fun kq v12 v13 wr => ∃ (k : Nat) (l : List UInt8), v13 = .int .i64 k ∧ s.size ≤ k + kq ∧ k ≤ s.size + 3 ∧ wr.ownsRow w.heap.size 5 1 v12 l.length (Lib.byteCells l) ∧ l.length ≤ 4 * k ∧ Below w.heap.size w wr ∧ Hid (quotFrom s q raw bytes kq k l = quotOf s i raw bytes))
      case atStart => exact ⟨i + q.size, [], by go_num, by omega, by omega, World.ownsRow_nil _ _ _ _, by simp, Below.refl _ _, by show _ = _; rw [hfin.out]⟩
      case round =>
        obtain ⟨k, l, rfl, hfu, hk3, hown, hlen, hbw, hr⟩ := hrel
        by_cases hlt : k < s.size
        · obtain ⟨f, rfl⟩ : ∃ g, gk = g + 1 := ⟨gk - 1, by omega⟩
          cases hst : startsB s k q
          case true =>
            have hcv := own_string hown
            have hgood : Hid (quotOf s i raw bytes = .good l (k + q.size)) := by show _ = _; rw [← hr.out]; exact quotFrom_stop hlt hst
            go_wp2_with (go_at_call 23; refine (lStarts_c _ _ _ _ (by omega) (by omega) (by omega)).mono ?_; rintro e w' ⟨rfl, rfl⟩)
            go_ret3
            exact qpost_good hgood.out hbw
          case false =>
            have hb := get_bt s
            have hb0 : ((s[k]'hlt).toNat : Int) = bt s k := hb k hlt
            obtain ⟨c, hc⟩ : ∃ c, bt s k = c := ⟨_, rfl⟩
            rw [hc] at hb0
            have hc0 : 0 ≤ c := by rw [← hc]; exact bt_nonneg s k
            have hc1 : c ≤ 255 := by rw [← hc]; exact bt_le s k
            have hba : ((byteAt s k).toNat : Int) = c := by rw [byteAt_val]; exact hc
            have Hba := Lib.hid hba
            have Hc := Lib.hid hc
            have Hb := Lib.hid hb
            clear hba hc hb
            go_upto_region 12 with (go_at_call 23; refine (lStarts_c _ _ _ _ (by omega) (by omega) (by omega)).mono ?_; rintro e w' ⟨rfl, rfl⟩)
            go_cut [67] (fun v wc2 => v = .bool (nl1B s q k) ∧ wr = wc2)
            case first => as_aux_lemma =>
              by_cases h10 : c = 10
              · have h10b : (c == 10) = true := by simp [h10]
                have hd : Hid (nl1B s q k = ((q.size : Int) == 1)) := by show _ = _; apply bool_ext; simp [nl1B, Hc.out, h10]; omega
                clear h10
                go_wp2_with fail
                go_meet
                case rel => exact ⟨by rw [hd.out], rfl⟩
              · have h10b : (c == 10) = false := by simp [h10]
                have hd : Hid (nl1B s q k = false) := by show _ = _; simp [nl1B, Hc.out, h10]
                clear h10
                go_wp2_with fail
                go_meet
                case rel => exact ⟨by rw [hd.out], rfl⟩
            case rest => as_aux_lemma =>
              obtain ⟨rfl, rfl⟩ := hcut
              go_upto_if 67 with fail
              go_cut [67] (fun v wc2 => v = .bool (nlB s q k) ∧ wr = wc2)
              case first => as_aux_lemma =>
                cases hn1 : nl1B s q k
                · by_cases h13 : c = 13
                  · have h13b : (c == 13) = true := by simp [h13]
                    have hd : Hid (nlB s q k = ((q.size : Int) == 1)) := by show _ = _; apply bool_ext; simp [nlB, isNL, Hc.out, h13]; omega
                    clear h13
                    go_wp2_with fail
                    go_meet
                    case rel => exact ⟨by rw [hd.out], rfl⟩
                  · have h13b : (c == 13) = false := by simp [h13]
                    have hd : Hid (nlB s q k = false) := by
                      show _ = _
                      have : nlB s q k = nl1B s q k := by simp [nlB, nl1B, isNL, Hc.out, h13]
                      rw [this, hn1]
                    clear h13
                    go_wp2_with fail
                    go_meet
                    case rel => exact ⟨by rw [hd.out], rfl⟩
                · have hd : Hid (nlB s q k = true) := by
                    show _ = _
                    have h1 : bt s k = 10 ∧ q.size = 1 := by simpa [nl1B] using hn1
                    exact decide_eq_true ⟨Or.inl h1.1, h1.2⟩
                  go_wp2_with fail
                  go_meet
                  case rel => exact ⟨by rw [hd.out], rfl⟩
              case rest => as_aux_lemma =>
                obtain ⟨rfl, rfl⟩ := hcut
                cases hn : nlB s q k
                case true =>
                  have hbad : Hid (quotOf s i raw bytes = .bad k) := by
                    show _ = _; rw [← hr.out]; exact quotFrom_nl hlt hst (by simpa [nlB] using hn)
                  go_wp2_with fail
                  go_ret3
                  exact qpost_bad hbad.out hbw
                case false =>
                  have hnn : Hid (¬ (isNL (bt s k) ∧ q.size = 1)) := by show ¬ _; intro h; rw [nlB, decide_eq_true h] at hn; cases hn
                  by_cases h92 : c = 92
                  · have h92b : (c == 92) = true := by simp [h92]
                    cases raw
                    case true => as_aux_lemma =>
                      by_cases hend : k + 1 = s.size
                      · have hb1 : ((k : Int) + 1 == (s.size : Int)) = true := by simp; omega
                        have hbad : Hid (quotOf s i true bytes = .bad k) := by show _ = _; rw [← hr.out]; exact quotFrom_rawbad hlt hst hnn.out (by rw [Hc.out]; exact h92) (Or.inl hend)
                        clear h92
                        have Hend := Lib.hid hend
                        clear hend
                        go_wp2_with fail
                        go_ret3
                        exact qpost_bad hbad.out hbw
                      · have hb1 : ((k : Int) + 1 == (s.size : Int)) = false := by simp; omega
                        have hlt1 : k + 1 < s.size := by omega
                        obtain ⟨d, hd⟩ : ∃ d, bt s (k + 1) = d := ⟨_, rfl⟩
                        have hb2 : ((s[k + 1]'hlt1).toNat : Int) = d := by rw [Hb.out (k + 1) hlt1]; exact hd
                        have hd0 : 0 ≤ d := by rw [← hd]; exact bt_nonneg s (k + 1)
                        have hd1 : d ≤ 255 := by rw [← hd]; exact bt_le s (k + 1)
                        have hba2 : Hid (((byteAt s (k + 1)).toNat : Int) = d) := by show _ = _; rw [byteAt_val]; exact hd
                        have Hd := Lib.hid hd
                        clear hd
                        by_cases hnl : d = 10 ∧ q.size = 1
                        · have hbad : Hid (quotOf s i true bytes = .bad k) := by show _ = _; rw [← hr.out]; exact quotFrom_rawbad hlt hst hnn.out (by rw [Hc.out]; exact h92) (Or.inr (by rw [Hd.out]; exact hnl))
                          have hx1 : (d == 10) = true := by simp [hnl.1]
                          have hx2 : ((q.size : Int) == 1) = true := by simp; omega
                          clear h92 hnl
                          go_wp2_with fail
                          go_ret3
                          exact qpost_bad hbad.out hbw
                        · have hgo : Hid (quotFrom s q true bytes f (k + 2) (l ++ [byteAt s k, byteAt s (k + 1)]) = quotOf s i true bytes) := by
                            show _ = _; rw [← hr.out]; exact (quotFrom_raw hlt hst hnn.out (by rw [Hc.out]; exact h92) (fun h => by rcases h with h | h; exact hend h; rw [Hd.out] at h; exact hnl h)).symm
                          have hall : (d == 10) = false ∨ ((d == 10) = true ∧ ((q.size : Int) == 1) = false) := by
                            by_cases e : d = 10
                            · right; exact ⟨by simp [e], by simp; omega⟩
                            · left; simp [e]
                          clear h92 hnl hend
                          rcases hall with hx1 | ⟨hx1, hx2⟩
                          all_goals
                            go_wp2_with (at_builtin; refine wpList_append_own _ rfl _ _ 38 rfl w.heap.size 5 i0 (.int .u8 0) 1 1 Tryd.underlying38 hi0 hz0 hz1 hz2 rfl (by decide) _ _ _ rfl (hown.alloc _) ⟨wr.heap.size, 0, none⟩ 2 2 [.int .u8 c, .int .u8 d] rfl rfl (cells_new wr #[.int .u8 c, .int .u8 d] 5) (by intro u hu; simp at hu; rcases hu with rfl | rfl <;> rfl) (by unfold maxLen; omega) (by omega) (by have := hbw.size; simp; omega) ?_; intro v' w1 hown' hgrow _)
                            have R := quot_push (r := [byteAt s k, byteAt s (k + 1)]) (hown.alloc _) hbw hbw.size ((Below.refl _ _).alloc (Nat.le_refl _) _) hown' hgrow rfl (by rw [cells_two, Hba.out, hba2.out])
                            obtain ⟨R1, R2⟩ := R
                            clear hown' hgrow hown hbw
                            go_wp2_with fail
                            go_roundg f
                            case measure => omega
                            case rel => exact ⟨k + 2, l ++ [byteAt s k, byteAt s (k + 1)], by go_num, by omega, by omega, R1, by simp; omega, R2, hgo⟩
                    case false => as_aux_lemma =>
                      cases he : escOf s k bytes
                      case none =>
                        have hbad : Hid (quotOf s i false bytes = .bad k) := by show _ = _; rw [← hr.out]; exact quotFrom_escbad hlt hst hnn.out (by rw [Hc.out]; exact h92) he
                        clear h92
                        go_wp2_with fail
                        refine (Escape_c s k bytes wr (by omega) hlt).mono ?_
                        intro e w' hp
                        rw [he] at hp
                        obtain ⟨rfl, hb1⟩ := hp
                        go_wp2_with fail
                        go_ret3
                        exact qpost_bad hbad.out (hbw.trans (hb1.mono hbw.size))
                      case some p =>
                        have hgo : Hid (quotFrom s q false bytes f p.2 (l ++ p.1) = quotOf s i false bytes) := by
                          show _ = _; rw [← hr.out]; exact (quotFrom_esc hlt hst hnn.out (by rw [Hc.out]; exact h92) he).symm
                        have hp4 := escOf_le he
                        obtain ⟨hp2, hp3⟩ := escOf_gt he
                        clear h92
                        go_wp2_with fail
                        refine (Escape_c s k bytes wr (by omega) hlt).mono ?_
                        intro e w' hp
                        rw [he] at hp
                        obtain ⟨g, cap, rfl, hpart, hg, hb1⟩ := hp
                        have hown1 := own_below hown hb1
                        have hsz1 := hb1.size
                        have hsz0 := hbw.size
                        clear he
                        go_wp2_with (at_builtin; refine wpList_append_own _ rfl _ _ 38 rfl w.heap.size 5 i0 (.int .u8 0) 1 1 Tryd.underlying38 hi0 hz0 hz1 hz2 rfl (by decide) _ _ _ rfl hown1 ⟨g, 0, none⟩ p.1.length cap (Lib.byteCells p.1) rfl (by simp [Lib.byteCells]) (cells_part hpart) (Lib.byteCells_one _) (by unfold maxLen; omega) (by omega) (by omega) ?_; intro v' w1 hown' hgrow _)
                        have R := quot_push (r := p.1) hown1 hbw hsz0 hb1 hown' hgrow rfl rfl
                        obtain ⟨R1, R2⟩ := R
                        clear hown' hgrow hown hbw hown1 hb1 hpart
                        go_wp2_with fail
                        go_roundg f
                        case measure => omega
                        case rel => exact ⟨p.2, l ++ p.1, by go_num, by omega, by omega, R1, by simp; omega, R2, hgo⟩
                  · have h92b : (c == 92) = false := by simp [h92]
                    have hgo : Hid (quotFrom s q raw bytes f (k + 1) (l ++ [byteAt s k]) = quotOf s i raw bytes) := by
                      show _ = _; rw [← hr.out]; exact (quotFrom_plain hlt hst hnn.out (by rw [Hc.out]; exact h92)).symm
                    clear h92
                    go_wp2_with (at_builtin; refine wpList_append_own _ rfl _ _ 38 rfl w.heap.size 5 i0 (.int .u8 0) 1 1 Tryd.underlying38 hi0 hz0 hz1 hz2 rfl (by decide) _ _ _ rfl (hown.alloc _) ⟨wr.heap.size, 0, none⟩ 1 1 [.int .u8 c] rfl rfl (cells_new wr #[.int .u8 c] 5) (by intro u hu; simp at hu; subst hu; rfl) (by unfold maxLen; omega) (by omega) (by have := hbw.size; simp; omega) ?_; intro v' w1 hown' hgrow _)
                    have R := quot_push (r := [byteAt s k]) (hown.alloc _) hbw hbw.size ((Below.refl _ _).alloc (Nat.le_refl _) _) hown' hgrow rfl (by rw [cells_byte, Hba.out])
                    obtain ⟨R1, R2⟩ := R
                    clear hown' hgrow hown hbw
                    go_wp2_with fail
                    go_roundg f
                    case measure => omega
                    case rel => exact ⟨k + 1, l ++ [byteAt s k], by go_num, by omega, by omega, R1, by simp; omega, R2, hgo⟩
        · have hbad : Hid (quotOf s i raw bytes = .bad s.size) := by show _ = _; rw [← hr.out]; exact quotFrom_end hlt
          go_wp2
          go_ret3
          exact qpost_bad hbad.out hbw
end Go.Proofs.YtkhjenlclpcehaaDoor
