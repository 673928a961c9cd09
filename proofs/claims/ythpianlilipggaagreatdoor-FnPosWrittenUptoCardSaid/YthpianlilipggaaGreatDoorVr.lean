/- Runes of ASCII: a text's runes are its letters, and the text of runes is the letters' own. Condition: below 128. -/
import Derived.Test.YthpianlilipggaaGreatDoorVc
import Derived.Laws.IdiomStrings
import Derived.Laws.Cover4
import Derived.Lib.Hide
namespace Go.Proofs.YthpianlilipggaaGreatDoor

theorem ret_bool {a b : Bool} (h : a = b) : Ending.returned (.bool a) = .returned (.bool b) := by rw [h]
theorem bool_ext {a b : Bool} (h : a = true ↔ b = true) : a = b := Bool.eq_iff_iff.2 h
/-- A letter as a row of runes holds it. -/
def rn (c : UInt8) : Value := .int .i32 (c.toNat : Int)
theorem cln_lt {c : UInt8} (h : cln c = true) : c.toNat < 128 := by
  simp only [cln, Bool.and_eq_true, decide_eq_true_eq] at h
  omega
theorem enc_one (c : UInt8) (h : c.toNat < 128) : Utf8.encode (c.toNat : Int) = ⟨#[c]⟩ := by
  have hv : Utf8.valid (c.toNat : Int) = true := by
    unfold Utf8.valid
    simp
    omega
  unfold Utf8.encode
  simp only [hv, if_true, Int.toNat_natCast]
  rw [if_pos (by omega)]
  simp
theorem mk_app (a b : Bs) : (⟨a.toArray⟩ : ByteArray) ++ ⟨b.toArray⟩ = ⟨(a ++ b).toArray⟩ := by
  apply ByteArray.ext
  simp
theorem runesBytes_map (l : Bs) (h : ∀ c ∈ l, c.toNat < 128) : runesBytes (l.map fun c => (c.toNat : Int)) = ⟨l.toArray⟩ := by
  have aux : ∀ (l : Bs) (acc : Bs), (∀ c ∈ l, c.toNat < 128) → (l.map fun c => (c.toNat : Int)).foldl (fun r n => r ++ Utf8.encode n) ⟨acc.toArray⟩ = ⟨(acc ++ l).toArray⟩ := by
    intro l
    induction l with
    | nil => intro acc _; simp
    | cons c l ih =>
      intro acc h
      simp only [List.map_cons, List.foldl_cons]
      rw [enc_one c (h c (by simp)), show (⟨#[c]⟩ : ByteArray) = ⟨[c].toArray⟩ from rfl, mk_app, ih _ fun d hd => h d (by simp [hd])]
      simp
  have := aux l [] h
  exact this
theorem decode_one (l : Bs) (i : Nat) (c : UInt8) (hi : l[i]? = some c) (h : c.toNat < 128) : Utf8.decode ⟨l.toArray⟩ i = (c.toNat, 1) := by
  have hlt := (List.getElem?_eq_some_iff.1 hi).1
  have he : l[i] = c := (List.getElem?_eq_some_iff.1 hi).2
  have hg : (ByteArray.mk l.toArray).get! i = c := by
    show l.toArray[i]! = c
    rw [getElem!_pos l.toArray i (by simpa using hlt)]
    simpa using he
  unfold Utf8.decode
  simp only [Nat.add_zero, hg]
  rw [if_pos (by omega)]
theorem runesFrom_ascii (l : Bs) (h : ∀ c ∈ l, c.toNat < 128) : Conv.runesFrom ⟨l.toArray⟩ (ByteArray.mk l.toArray).size 0 #[] = (l.map rn).toArray := by
  have hsz : (ByteArray.mk l.toArray).size = l.length := by simp [ByteArray.size]
  have aux : ∀ (bound i : Nat) (acc : Array Value), bound = l.length - i → i ≤ l.length → Conv.runesFrom ⟨l.toArray⟩ bound i acc = acc ++ ((l.drop i).map rn).toArray := by
    intro bound
    induction bound with
    | zero =>
      intro i acc hb hi
      have : l.drop i = [] := List.drop_eq_nil_of_le (by omega)
      simp [Conv.runesFrom, this]
    | succ bound ih =>
      intro i acc hb hi
      have hlt : i < l.length := by omega
      unfold Conv.runesFrom
      rw [hsz, if_pos hlt, decode_one l i l[i] (List.getElem?_eq_getElem hlt) (h _ (List.getElem_mem hlt))]
      simp only []
      have hd : (l.drop i).map rn = rn l[i] :: (l.drop (i + 1)).map rn := by rw [List.drop_eq_getElem_cons hlt]; rfl
      rw [ih (i + 1) _ (by omega) (by omega), hd]
      apply Array.ext'
      simp only [Array.toList_append, Array.toList_push, List.append_assoc, List.cons_append, List.nil_append]
      rfl
  have := aux (ByteArray.mk l.toArray).size 0 #[] (by rw [hsz]; omega) (Nat.zero_le _)
  simpa using this
end Go.Proofs.YthpianlilipggaaGreatDoor
