/- Capitals as package char writes them: the plain ones. Condition: the text is at most 2^38 bytes long. -/
import Derived.Test.YtkhjenlclpcehaaDoorWc
import Derived.Test.YtkhjenlclpcehaaDoorId
import Derived.Lib.LazyBuf
namespace Go.Proofs.YtkhjenlclpcehaaDoor
open Go.RowKit Go.PlainAid

theorem upTake (L : List UInt8) (k : Nat) (h : k < L.length) : upperL (L.take (k + 1)) = upperL (L.take k) ++ [upB (L[k]'h)] := by
  rw [List.take_succ_eq_append_getElem h]; unfold upperL; rw [List.map_append]; rfl
theorem upperL_len (L : List UInt8) : (upperL L).length = L.length := by simp [upperL]

theorem cell_new1 (w : World) (u : Value) (T : TypeId) : (w.alloc (.cells #[u] T)).cell? ((⟨w.heap.size, 0, none⟩ : Addr).add 0) = some u := by
  rw [add_off]; have h := heap_alloc_new w (.cells #[u] T); simp only [World.cell?, h]; rfl
theorem extract_toList (s : ByteArray) (k : Nat) : (s.extract 0 k).data.toList = s.data.toList.take k := by
  rw [ByteArray.data_extract]; simp

set_option maxHeartbeats 1600000 in
set_option maxRecDepth 20000 in
theorem ToUpper_c (s : ByteArray) (w : World) (hs : s.size ≤ 274877906944) :
    Calls Tryd.prog 44 #[.string s] w fun e w' => e = .returned (.string ⟨(upperL s.data.toList).toArray⟩) ∧ Below w.heap.size w w' := by
  have hb := get_bt s
  obtain ⟨L, hL⟩ : ∃ L, s.data.toList = L := ⟨_, rfl⟩
  have hLs : Hid (L.length = s.size) := by show _ = _; rw [← hL]; simp
  have hby : Hid (∀ k (h : k < L.length), bt s k = ((L[k]'h).toNat : Int)) := by
    intro k h
    subst hL
    have h2 : k < s.size := by simpa using h
    rw [← hb k h2]
    rfl
  have hLd : Hid (s.data.toList = L) := hL
  rw [hL]
  clear hL
  have hnil : ∀ (W : World) (a : Option Addr) (l c : Nat), (binOp .eql 38 (.slice a l c) (.slice none 0 0)).run Tryd.prog W = .ok (.bool a.isNone) W := fun W a l c => Go.run_eql_slice_nil W _ _ a l c Tryd.underlying38
  have hnnil : ∀ (W : World) (a : Option Addr) (l c : Nat), (binOp .neq 38 (.slice a l c) (.slice none 0 0)).run Tryd.prog W = .ok (.bool (!a.isNone)) W := fun W a l c => Go.run_neq_slice_nil W _ _ a l c Tryd.underlying38
  go_enter Tryd.func44, Tryd.ntmps44
  go_wp2
  go_loopw [3, 4] (fun v3 v4 wr => ∃ k : Nat, k ≤ s.size ∧ v4 = .int .i64 k ∧ Below w.heap.size w wr ∧ ((v3 = .slice none 0 0 ∧ Hid (upperL (L.take k) = L.take k)) ∨ MarkRow wr w.heap.size v3 (upperL (L.take k)))) (fun _ v4 _ => s.size - (intOf v4).toNat)
  case atStart => exact ⟨0, by omega, rfl, Below.refl _ _, Or.inl ⟨rfl, by show _ = _; simp [upperL]⟩⟩
  case round =>
    obtain ⟨k, hk, rfl, hbw, hv⟩ := hrel
    by_cases hlt : k < s.size
    · have hkl : k < L.length := by rw [hLs.out]; exact hlt
      have hx := hby.out k hkl
      have htk := Lib.hid (upTake L k hkl)
      obtain ⟨x, hxe⟩ : ∃ x, L[k]'hkl = x := ⟨_, rfl⟩
      rw [hxe] at hx htk
      have Hx := Lib.hid hxe
      clear hxe
      have hc0 : 0 ≤ bt s k := bt_nonneg s k
      have hc1 : bt s k ≤ 255 := bt_le s k
      have Hxc : Hid (bt s k = (x.toNat : Int)) := hx
      clear hx
      by_cases hup : 97 ≤ bt s k ∧ bt s k ≤ 122
      · obtain ⟨hu1, hu2⟩ := hup
        have huv : Hid (((upB x).toNat : Int) = bt s k - 32) := by show _ = _; rw [Hxc.out]; exact upB_yes (by rw [← Hxc.out]; exact hu1) (by rw [← Hxc.out]; exact hu2)
        rcases hv with ⟨rfl, hid⟩ | hm
        · have hek : (s.extract 0 k).size = k := by rw [ByteArray.size_extract]; omega
          have hcv := run_bytes_of wr (s.extract 0 k)
          have hmk := markRow_new wr w.heap.size (s.extract 0 k) hbw.size (by rw [hek]; unfold maxLen; omega)
          have hbl := below_bytesWorld wr (s.extract 0 k)
          rw [hek] at hcv hmk
          rw [extract_toList, hLd.out, ← hid.out] at hmk
          obtain ⟨W0, hW0⟩ : ∃ W0, Lib.bytesWorld wr 5 (s.extract 0 k) = W0 := ⟨_, rfl⟩
          rw [hW0] at hcv hmk hbl
          obtain ⟨cap, hcap⟩ : ∃ cap, grownCap wr k 0 5 = cap := ⟨_, rfl⟩
          rw [hcap] at hcv hmk
          clear hek hW0 hcap hid
          have hlen : (upperL (L.take k)).length + 1 ≤ 1099511627776 := by rw [upperL_len, List.length_take]; omega
          have hbs := hbw.size
          have hbs2 := hbl.size
          have HB := Lib.hid (hbw.trans (hbl.mono hbs))
          have HM := Lib.hid hmk
          clear hmk hbl hbw
          go_wp2_with (at_builtin; refine wpList_append_mark _ rfl (.tmp 27) (.tmp 31) rfl w.heap.size _ (upperL (L.take k)) (upB x) rfl (HM.out.kept ((Below.refl _ _).alloc (Nat.le_refl _) _)) (by simp; omega) hlen ⟨W0.heap.size, 0, none⟩ 1 rfl (by rw [huv.out, cell_new1]; congr 2; omega) ?_; intro v' w' hm1 hgr)
          all_goals
            go_roundw
            case rel => exact ⟨k + 1, by omega, by go_num, (HB.out.alloc (by omega) _).grown hgr (by simp; omega) (fun k2 h2 => (HM.out.lt k2 h2).1), Or.inr (by rw [htk.out]; exact hm1)⟩
            case measure => simp [intOf]; omega
        · obtain ⟨g, cap, C, fz, rfl, hmr⟩ := id hm
          clear hmr
          have hn : (upperL (L.take k)).length = k := by rw [upperL_len, List.length_take, hLs.out]; omega
          rw [hn] at hm
          rw [hn]
          have hlen : (upperL (L.take k)).length + 1 ≤ 1099511627776 := by rw [hn]; omega
          clear hn
          have hbs := hbw.size
          have HB := Lib.hid hbw
          have HM := Lib.hid hm
          clear hm hbw
          go_wp2_with (at_builtin; refine wpList_append_mark _ rfl _ _ rfl w.heap.size _ (upperL (L.take k)) (upB x) rfl (HM.out.kept ((Below.refl _ _).alloc (Nat.le_refl _) _)) (by simp; omega) hlen ⟨wr.heap.size, 0, none⟩ 1 rfl (by rw [huv.out, cell_new1]; congr 2; omega) ?_; intro v' w' hm1 hgr)
          all_goals
            go_roundw
            case rel => exact ⟨k + 1, by omega, by go_num, (HB.out.alloc hbs _).grown hgr (by simp; omega) (fun k2 h2 => (HM.out.lt k2 h2).1), Or.inr (by rw [htk.out]; exact hm1)⟩
            case measure => simp [intOf]; omega
      · have huv : Hid (upB x = x) := by show _ = _; exact upB_no (by rw [← Hxc.out]; exact hup)
        rcases hv with ⟨rfl, hid⟩ | hm
        · go_wp2
          all_goals
            go_roundw
            case rel => exact ⟨k + 1, by omega, by go_num, hbw, Or.inl ⟨rfl, by show _ = _; rw [htk.out, hid.out, huv.out, ← Hx.out, List.take_succ_eq_append_getElem]⟩⟩
            case measure => simp [intOf]; omega
        · obtain ⟨g, cap, C, fz, rfl, hmr⟩ := id hm
          clear hmr
          have hn : (upperL (L.take k)).length = k := by rw [upperL_len, List.length_take, hLs.out]; omega
          rw [hn] at hm
          rw [hn]
          have hlen : (upperL (L.take k)).length + 1 ≤ 1099511627776 := by rw [hn]; omega
          clear hn
          have hbs := hbw.size
          have HB := Lib.hid hbw
          have HM := Lib.hid hm
          clear hm hbw
          go_wp2_with (at_builtin; refine wpList_append_mark _ rfl _ _ rfl w.heap.size _ (upperL (L.take k)) (upB x) rfl (HM.out.kept ((Below.refl _ _).alloc (Nat.le_refl _) _)) (by simp; omega) hlen ⟨wr.heap.size, 0, none⟩ 1 rfl (by rw [huv.out, cell_new1, Hxc.out]) ?_; intro v' w' hm1 hgr)
          all_goals
            go_roundw
            case rel => exact ⟨k + 1, by omega, by go_num, (HB.out.alloc hbs _).grown hgr (by simp; omega) (fun k2 h2 => (HM.out.lt k2 h2).1), Or.inr (by rw [htk.out]; exact hm1)⟩
            case measure => simp [intOf]; omega
    · have hke : k = s.size := by omega
      rcases hv with ⟨rfl, hid⟩ | hm
      · go_wp2
        go_ret
        refine ⟨?_, hbw⟩
        have := hid.out
        rw [List.take_of_length_le (by rw [hLs.out]; omega)] at this
        rw [this, ← hLd.out]
        have e : (⟨s.data.toList.toArray⟩ : ByteArray) = s := by simp
        rw [e]
        rfl
      · obtain ⟨g, cap, C, fz, rfl, hmr⟩ := id hm
        clear hmr
        have hLk : L.take k = L := List.take_of_length_le (by rw [hLs.out]; omega)
        rw [hLk] at hm
        rw [hLk]
        have hcv : (convert 38 9 (.slice (some ⟨g, 0, none⟩) (upperL L).length cap)).run Tryd.prog wr = .ok (.string ⟨(upperL L).toArray⟩) wr :=
          run_convert_bytes_back wr 38 9 5 ⟨g, 0, none⟩ cap (upperL L) Tryd.underlying38 Tryd.underlying5 Tryd.underlying9 (fun j hj => hm.cells j hj)
        clear hm hLk
        go_wp2
        go_ret
        exact ⟨rfl, hbw⟩
end Go.Proofs.YtkhjenlclpcehaaDoor
