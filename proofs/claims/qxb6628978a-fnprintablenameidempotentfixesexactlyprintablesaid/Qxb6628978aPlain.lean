/-
  Seat b6628978a: THE PLAIN FUNCTION: every byte that is not printable ASCII becomes '?'.
-/
import Derived.Test.Qxb6628978aRows
import Derived.WalkKit
import Derived.WalkSpells
import Derived.WalkLawsBesides
import Derived.Lib.ConvBytes
import Derived.Laws.BytesArg
namespace Go.Proofs.Qxb6628978a
open Go.RowKit

/-- The cleaned number. -/
def cln (n : Int) : Int := if 32 ≤ n ∧ n ≤ 126 then n else 63
/-- The number of byte j (nought behind the end). -/
def bt (s : ByteArray) (j : Nat) : Int := (s.data.toList.getD j 0).toNat
/-- The cleaned text. -/
def pn (s : ByteArray) : ByteArray := strOfNums ((List.range s.size).map fun j => cln (bt s j))

theorem bt_lo (s : ByteArray) (j : Nat) : 0 ≤ bt s j := by unfold bt; omega
theorem bt_hi (s : ByteArray) (j : Nat) : bt s j ≤ 255 := by
  unfold bt
  have := (s.data.toList.getD j 0).toNat_lt
  omega

theorem pn_size (s : ByteArray) : (pn s).size = s.size := by unfold pn; rw [strOfNums_size]; simp

theorem cln_lo (n : Int) (h : 0 ≤ n) : 0 ≤ cln n := by unfold cln; split <;> omega
theorem cln_hi (n : Int) : cln n ≤ 126 := by unfold cln; split <;> omega

theorem bt_pn (s : ByteArray) (j : Nat) (hj : j < s.size) : bt (pn s) j = cln (bt s j) := by
  unfold bt pn
  rw [strOfNums_data]
  have h1 := cln_lo (bt s j) (bt_lo s j)
  have h2 := cln_hi (bt s j)
  have e : (List.map (fun n : Int => UInt8.ofNat n.toNat) ((List.range s.size).map fun j => cln (bt s j))).getD j 0 = UInt8.ofNat (cln (bt s j)).toNat := by
    simp [List.getD, hj]
  rw [e]
  show ((UInt8.ofNat (cln (bt s j)).toNat).toNat : Int) = _
  rw [UInt8.toNat_ofNat']
  have e2 : (cln (bt s j)).toNat % 2 ^ 8 = (cln (bt s j)).toNat := Nat.mod_eq_of_lt (by omega)
  rw [e2]
  have : ((cln (bt s j)).toNat : Int) = cln (bt s j) := Int.toNat_of_nonneg h1
  exact this

/-- Two strings of one size that agree byte for byte are one. -/
theorem ext_bt {s t : ByteArray} (hz : s.size = t.size) (h : ∀ j, j < s.size → bt s j = bt t j) : s = t := by
  have hl : s.data.toList = t.data.toList := by
    apply List.ext_getElem
    · simpa using hz
    · intro i h1 h2
      have hi : i < s.size := by simpa using h1
      have := h i hi
      unfold bt at this
      simp only [List.getD, List.getElem?_eq_getElem h1, List.getElem?_eq_getElem h2, Option.getD_some] at this
      exact UInt8.toNat_inj.1 (by omega)
  cases s with
  | mk d => cases t with
    | mk d' => cases d with
      | mk l => cases d' with
        | mk l' => simp at hl; rw [hl]

theorem cln_cln (n : Int) : cln (cln n) = cln n := by
  unfold cln
  by_cases h : 32 ≤ n ∧ n ≤ 126
  · simp [h]
  · simp [h]

theorem pn_pn (s : ByteArray) : pn (pn s) = pn s := by
  apply ext_bt
  · rw [pn_size]
  · intro j hj
    rw [pn_size] at hj
    have hj' := hj
    rw [pn_size] at hj'
    rw [bt_pn _ _ hj, bt_pn _ _ hj', cln_cln]

theorem bt_append_left (a b : ByteArray) (j : Nat) (h : j < a.size) : bt (a ++ b) j = bt a j := by
  unfold bt
  have : (a ++ b).data.toList = a.data.toList ++ b.data.toList := by simp
  rw [this]
  simp only [List.getD]
  rw [List.getElem?_append_left (by simpa using h)]

theorem bt_append_right (a b : ByteArray) (j : Nat) (h : a.size ≤ j) : bt (a ++ b) j = bt b (j - a.size) := by
  unfold bt
  have : (a ++ b).data.toList = a.data.toList ++ b.data.toList := by simp
  rw [this]
  simp only [List.getD]
  rw [List.getElem?_append_right (by simpa using h)]
  rfl

theorem size_app (a b : ByteArray) : (a ++ b).size = a.size + b.size := by simp

theorem pn_append (a b : ByteArray) : pn (a ++ b) = pn a ++ pn b := by
  apply ext_bt
  · rw [pn_size, size_app, size_app, pn_size, pn_size]
  · intro j hj
    rw [pn_size] at hj
    rw [bt_pn _ _ hj]
    rw [size_app] at hj
    by_cases h : j < a.size
    · rw [bt_append_left _ _ _ h, bt_append_left _ _ _ (by rw [pn_size]; exact h), bt_pn _ _ h]
    · rw [bt_append_right _ _ _ (by omega), bt_append_right _ _ _ (by rw [pn_size]; omega), pn_size, bt_pn _ _ (by omega)]

end Go.Proofs.Qxb6628978a
