/-
  Seat b6628978a: FnPrintableNameSplitsAtAnyCut (3): THE WALK.
-/
import Derived.Test.Qxb6628978aName
namespace Go.Proofs.Qxb6628978a
open Go.RowKit

theorem get_bt (s : ByteArray) : ∀ (n : Nat) (h : n < s.size), ((s[n]'h).toNat : Int) = bt s n := fun n h => by
  unfold bt
  have h' : n < s.data.toList.length := by simpa using h
  simp only [List.getD, List.getElem?_eq_getElem h', Option.getD_some]
  rfl

theorem get_pn (s : ByteArray) : ∀ (n : Nat) (h : n < (pn s).size), (((pn s)[n]'h).toNat : Int) = cln (bt s n) := fun n h => by
  rw [get_bt, bt_pn _ _ (by rw [pn_size] at h; exact h)]

set_option maxHeartbeats 400000 in
theorem fits5 (a b : ByteArray) (w : World) (h : a.size + b.size ≤ 1048576) :
    Calls Try.prog 5 #[.string a, .string b] w fun e w' => e = .returned (.bool true) ∧ w' = w := by
  go_enter Try.func5, Try.ntmps5
  go_wp2
  go_ret
  exact ⟨rfl, rfl⟩

set_option maxHeartbeats 400000 in
theorem big5 (a b : ByteArray) (w : World) (ha : a.size ≤ maxLen) (hb : b.size ≤ maxLen) (h : 1048576 < a.size + b.size) :
    Calls Try.prog 5 #[.string a, .string b] w fun e w' => e = .returned (.bool false) ∧ w' = w := by
  unfold maxLen at ha hb
  by_cases h1 : a.size ≤ 1048576
  · by_cases h2 : b.size ≤ 1048576
    · go_enter Try.func5, Try.ntmps5
      go_wp2
      go_ret
      exact ⟨rfl, rfl⟩
    · go_enter Try.func5, Try.ntmps5
      go_wp2
      go_ret
      exact ⟨rfl, rfl⟩
  · go_enter Try.func5, Try.ntmps5
    go_wp2
    go_ret
    exact ⟨rfl, rfl⟩

theorem name_cat (a b : ByteArray) (w : World) (h : a.size + b.size ≤ 1048576) :
    Calls Try.prog 6 #[.string (a ++ b)] w fun e w' => e = .returned (.string (pn a ++ pn b)) ∧ Below w.heap.size w w' := by
  refine (name_any (a ++ b) w (by rw [size_app]; exact h)).mono fun e w' ⟨he, hb⟩ => ⟨?_, hb⟩
  rw [he, pn_append]

set_option maxRecDepth 100000 in
set_option maxHeartbeats 400000 in
theorem splits_long (a b : ByteArray) (w : World) (h : a.size + b.size ≤ 1048576) :
    Calls Try.prog 3 #[.string a, .string b] w fun e w' => e = .returned (.bool true) ∧ Below w.heap.size w w' := by
  have hps := pn_size a
  have hps' := pn_size b
  go_enter Try.func3, Try.ntmps3
  go_wp2_with (go_at_call 5; refine (fits5 a b _ h).mono ?_; rintro e w' ⟨rfl, rfl⟩)
  refine (name_cat a b _ h).mono ?_
  rintro e w1 ⟨rfl, hb1⟩
  go_wp2_with fail
  refine (name_any a _ (by omega)).mono ?_
  rintro e w2 ⟨rfl, hb2⟩
  go_wp2_with fail
  refine (name_any b _ (by omega)).mono ?_
  rintro e w3 ⟨rfl, hb3⟩
  have hB : Below w'.heap.size w' w3 := (hb1.trans (hb2.mono hb1.size)).trans (hb3.mono (Nat.le_trans hb1.size hb2.size))
  clear hb1 hb2 hb3
  go_wp2
  go_loop [8, 9, 10] (fun i _ _ => ∃ k : Nat, k ≤ a.size ∧ i = .int .i64 k) (fun i _ _ => a.size - (intOf i).toNat)
  case atStart => exact ⟨0, Nat.zero_le _, rfl⟩
  case round =>
    obtain ⟨k, hk, rfl⟩ := hrel
    by_cases hlt : k < a.size
    · have g1 := get_bt a
      have g2 := get_pn a
      have b0 := bt_lo a k
      have b1 := bt_hi a k
      by_cases p1 : 32 ≤ bt a k
      · by_cases p2 : bt a k ≤ 126
        · have he : cln (bt a k) = bt a k := if_pos ⟨p1, p2⟩
          go_wp2
          go_round
          case rel => exact ⟨k + 1, by omega, by go_num⟩
          case measure => simp [intOf]; omega
        · have he : cln (bt a k) = 63 := if_neg (fun h => p2 h.2)
          go_wp2
          go_round
          case rel => exact ⟨k + 1, by omega, by go_num⟩
          case measure => simp [intOf]; omega
      · have he : cln (bt a k) = 63 := if_neg (fun h => p1 h.1)
        go_wp2
        go_round
        case rel => exact ⟨k + 1, by omega, by go_num⟩
        case measure => simp [intOf]; omega
    · go_wp2
      go_ret
      exact ⟨rfl, hB⟩

set_option maxRecDepth 100000 in
set_option maxHeartbeats 400000 in
theorem splits_short (a b : ByteArray) (w : World) (ha : a.size ≤ maxLen) (hb : b.size ≤ maxLen) (h : 1048576 < a.size + b.size) :
    Calls Try.prog 3 #[.string a, .string b] w fun e w' => e = .returned (.bool true) ∧ w' = w := by
  go_enter Try.func3, Try.ntmps3
  go_wp2_with (go_at_call 5; refine (big5 a b _ ha hb h).mono ?_; rintro e w' ⟨rfl, rfl⟩)
  go_ret
  exact ⟨rfl, rfl⟩

end Go.Proofs.Qxb6628978a
